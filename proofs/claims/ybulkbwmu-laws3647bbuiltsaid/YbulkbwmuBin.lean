/-
  binary.BigEndian.Uint64 over this dump, by its contract: the number that eight cells spell; nothing that was there turns.
-/
import Derived.Test.YbulkbwmuRows
import Derived.WalkKit
import Derived.Lib.EndianBits
import Derived.Stop.LaidErr
import Derived.Deep.QuietTactic
import Derived.BigQuiet
namespace Go.Proofs.Ybulkbwmu
open Go.RowKit

/-- Eight bytes, the greatest first. -/
def be8 (z0 z1 z2 z3 z4 z5 z6 z7 : Int) : Int :=
  z7 + z6 * 256 + z5 * 65536 + z4 * 16777216 + z3 * 4294967296 + z2 * 1099511627776 + z1 * 281474976710656 + z0 * 72057594037927936

def Byte (z : Int) : Prop := 0 ≤ z ∧ z ≤ 255

theorem ret_int {k : IntKind} {a b : Int} (h : a = b) : Ending.returned (.int k a) = .returned (.int k b) := by rw [h]

theorem or8_eq (z0 z1 z2 z3 z4 z5 z6 z7 : Int) (l0 : 0 ≤ z0) (u0 : z0 ≤ 255) (l1 : 0 ≤ z1) (u1 : z1 ≤ 255) (l2 : 0 ≤ z2) (u2 : z2 ≤ 255) (l3 : 0 ≤ z3) (u3 : z3 ≤ 255)
    (l4 : 0 ≤ z4) (u4 : z4 ≤ 255) (l5 : 0 ≤ z5) (u5 : z5 ≤ 255) (l6 : 0 ≤ z6) (u6 : z6 ≤ 255) (l7 : 0 ≤ z7) (u7 : z7 ≤ 255) :
    bits .or .u64 (bits .or .u64 (bits .or .u64 (bits .or .u64 (bits .or .u64 (bits .or .u64 (bits .or .u64 z7 (z6 * 256)) (z5 * 65536)) (z4 * 16777216)) (z3 * 4294967296)) (z2 * 1099511627776)) (z1 * 281474976710656)) (z0 * 72057594037927936)
      = be8 z0 z1 z2 z3 z4 z5 z6 z7 := by
  simp (disch := omega) only [u64_or8, u64_or16, u64_or24, u64_or32, u64_or40, u64_or48, u64_or56]
  rfl

set_option maxHeartbeats 8000000 in
set_option maxRecDepth 100000 in
theorem uint64_any (g o n c : Nat) (z0 z1 z2 z3 z4 z5 z6 z7 : Int) (w : World) (hn : 8 ≤ n)
    (b0 : Byte z0) (b1 : Byte z1) (b2 : Byte z2) (b3 : Byte z3) (b4 : Byte z4) (b5 : Byte z5) (b6 : Byte z6) (b7 : Byte z7)
    (c0 : w.cell? ⟨g, o, none⟩ = some (.int .u8 z0)) (c1 : w.cell? ⟨g, o + 1, none⟩ = some (.int .u8 z1)) (c2 : w.cell? ⟨g, o + 2, none⟩ = some (.int .u8 z2)) (c3 : w.cell? ⟨g, o + 3, none⟩ = some (.int .u8 z3)) (c4 : w.cell? ⟨g, o + 4, none⟩ = some (.int .u8 z4)) (c5 : w.cell? ⟨g, o + 5, none⟩ = some (.int .u8 z5)) (c6 : w.cell? ⟨g, o + 6, none⟩ = some (.int .u8 z6)) (c7 : w.cell? ⟨g, o + 7, none⟩ = some (.int .u8 z7)) :
    Calls Yba.prog 12 #[.agg #[], .slice (some ⟨g, o, none⟩) n c] w fun e w' => e = .returned (.int .u64 (be8 z0 z1 z2 z3 z4 z5 z6 z7)) ∧ Below w.heap.size w w' := by
  obtain ⟨l0, u0⟩ := b0; obtain ⟨l1, u1⟩ := b1; obtain ⟨l2, u2⟩ := b2; obtain ⟨l3, u3⟩ := b3
  obtain ⟨l4, u4⟩ := b4; obtain ⟨l5, u5⟩ := b5; obtain ⟨l6, u6⟩ := b6; obtain ⟨l7, u7⟩ := b7
  have d0 := cell?_alloc_old (.cells #[] 53) c0
  have d1 := cell?_alloc_old (.cells #[] 53) c1
  have d2 := cell?_alloc_old (.cells #[] 53) c2
  have d3 := cell?_alloc_old (.cells #[] 53) c3
  have d4 := cell?_alloc_old (.cells #[] 53) c4
  have d5 := cell?_alloc_old (.cells #[] 53) c5
  have d6 := cell?_alloc_old (.cells #[] 53) c6
  have d7 := cell?_alloc_old (.cells #[] 53) c7
  have q0 : 0 < n := by omega
  have q1 : (1 : Int) < (n : Int) := by omega
  have q2 : (2 : Int) < (n : Int) := by omega
  have q3 : (3 : Int) < (n : Int) := by omega
  have q4 : (4 : Int) < (n : Int) := by omega
  have q5 : (5 : Int) < (n : Int) := by omega
  have q6 : (6 : Int) < (n : Int) := by omega
  have q7 : (7 : Int) < (n : Int) := by omega
  go_enter Yba.func12, Yba.ntmps12
  go_wp2
  go_quiet (fail)
  go_wp2
  go_ret
  refine ⟨?_, ((Below.refl _ w).alloc (Nat.le_refl _) _).trans ⟨rfl, rfl, rfl, Nat.le_refl _, fun _ _ => rfl⟩⟩
  exact ret_int (or8_eq z0 z1 z2 z3 z4 z5 z6 z7 l0 u0 l1 u1 l2 u2 l3 u3 l4 u4 l5 u5 l6 u6 l7 u7)

/-- v's eight bytes, the greatest first, as cells. -/
def put8 (v : Int) : List Value :=
  [.int .u8 (v / 72057594037927936), .int .u8 (v / 281474976710656 % 256), .int .u8 (v / 1099511627776 % 256), .int .u8 (v / 4294967296 % 256), .int .u8 (v / 16777216 % 256), .int .u8 (v / 65536 % 256), .int .u8 (v / 256 % 256), .int .u8 (v % 256)]

set_option maxHeartbeats 8000000 in
set_option maxRecDepth 100000 in
theorem put64_any (g o n c : Nat) (v : Int) (hv0 : 0 ≤ v) (hv : v ≤ 18446744073709551615) (x0 x1 x2 x3 x4 x5 x6 x7 : Value) (w : World) (hn : 8 ≤ n)
    (c0 : w.cell? ⟨g, o, none⟩ = some x0) (c1 : w.cell? ⟨g, o + 1, none⟩ = some x1) (c2 : w.cell? ⟨g, o + 2, none⟩ = some x2) (c3 : w.cell? ⟨g, o + 3, none⟩ = some x3) (c4 : w.cell? ⟨g, o + 4, none⟩ = some x4) (c5 : w.cell? ⟨g, o + 5, none⟩ = some x5) (c6 : w.cell? ⟨g, o + 6, none⟩ = some x6) (c7 : w.cell? ⟨g, o + 7, none⟩ = some x7)
    (f0 : w.frozen? ⟨g, o, none⟩ = false) (f1 : w.frozen? ⟨g, o + 1, none⟩ = false) (f2 : w.frozen? ⟨g, o + 2, none⟩ = false) (f3 : w.frozen? ⟨g, o + 3, none⟩ = false) (f4 : w.frozen? ⟨g, o + 4, none⟩ = false) (f5 : w.frozen? ⟨g, o + 5, none⟩ = false) (f6 : w.frozen? ⟨g, o + 6, none⟩ = false) (f7 : w.frozen? ⟨g, o + 7, none⟩ = false) :
    Calls Yba.prog 8 #[.agg #[], .slice (some ⟨g, o, none⟩) n c, .int .u64 v] w fun e w' => e = .returned (.tuple #[]) ∧ w' = (w.alloc (.cells #[] 53)).setCells g o (put8 v) := by
  have d0 := cell?_alloc_old (.cells #[] 53) c0
  have fa0 := (frozen?_alloc_cells w #[] 53 ⟨g, o, none⟩).trans f0
  have d1 := cell?_alloc_old (.cells #[] 53) c1
  have fa1 := (frozen?_alloc_cells w #[] 53 ⟨g, o + 1, none⟩).trans f1
  have d2 := cell?_alloc_old (.cells #[] 53) c2
  have fa2 := (frozen?_alloc_cells w #[] 53 ⟨g, o + 2, none⟩).trans f2
  have d3 := cell?_alloc_old (.cells #[] 53) c3
  have fa3 := (frozen?_alloc_cells w #[] 53 ⟨g, o + 3, none⟩).trans f3
  have d4 := cell?_alloc_old (.cells #[] 53) c4
  have fa4 := (frozen?_alloc_cells w #[] 53 ⟨g, o + 4, none⟩).trans f4
  have d5 := cell?_alloc_old (.cells #[] 53) c5
  have fa5 := (frozen?_alloc_cells w #[] 53 ⟨g, o + 5, none⟩).trans f5
  have d6 := cell?_alloc_old (.cells #[] 53) c6
  have fa6 := (frozen?_alloc_cells w #[] 53 ⟨g, o + 6, none⟩).trans f6
  have d7 := cell?_alloc_old (.cells #[] 53) c7
  have fa7 := (frozen?_alloc_cells w #[] 53 ⟨g, o + 7, none⟩).trans f7
  go_enter Yba.func8, Yba.ntmps8
  go_wp2
  go_end0
  exact ⟨rfl, rfl⟩

end Go.Proofs.Ybulkbwmu
