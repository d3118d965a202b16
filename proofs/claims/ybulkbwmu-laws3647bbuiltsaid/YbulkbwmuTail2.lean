/-
  checker.deref, checker.tail: by their contracts.
-/
import Derived.Test.YbulkbwmuTail
namespace Go.Proofs.Ybulkbwmu
open Go.RowKit

theorem box_cells {w w' : World} {a b : Value} {t : TypeId} (hb : Below (w.alloc (.cells #[a, b] t)).heap.size (w.alloc (.cells #[a, b] t)) w') :
    w'.cell? ⟨w.heap.size, 0, none⟩ = some a ∧ w'.cell? ⟨w.heap.size, 1, none⟩ = some b :=
  ⟨(hb.cell (p := ⟨w.heap.size, 0, none⟩) (by simp)).trans (by simp), (hb.cell (p := ⟨w.heap.size, 1, none⟩) (by simp)).trans (by simp)⟩

theorem box_below {w w' : World} {o : Obj} (hb : Below (w.alloc o).heap.size (w.alloc o) w') : Below w.heap.size w w' :=
  ((Below.refl _ _).alloc (Nat.le_refl _) _).trans (hb.mono (by simp))

set_option maxHeartbeats 400000 in
set_option maxRecDepth 100000 in
theorem deref_any (f : Nat → Int) (hb : ∀ i, Byte (f i)) (cb g L head base : Nat) (w : World) (hc : w.cell? ⟨cb, 0, none⟩ = some (.slice (some ⟨g, 0, none⟩) L L)) (hL : L ≤ 100000) (hcb : cb < w.heap.size) (hg : g < w.heap.size) (hl : Lies f g L w) (hbase : base ≤ 200000) :
    Calls Yba.prog 9 #[.pointer (some ⟨cb, 0, none⟩), .agg #[.int .i64 head, .int .i64 base]] w fun e w' => e = .returned (.tuple #[.int .i64 (addOf L base (numAt f L head)), .int .u8 (violAt L head)]) ∧ Below w.heap.size w w' := by
  obtain ⟨nb0, nb1⟩ := numAt_bounds f hb L head
  have hb1 : Below w.heap.size w (w.alloc (.cells #[.int .i64 head, .int .i64 base] 48)) := (Below.refl _ _).alloc (Nat.le_refl _) _
  have hc1 := (hb1.cell (p := ⟨cb, 0, none⟩) hcb).trans hc
  have hl1 := hl.below hb1 hg
  have H := number_any f hb cb g L head _ hc1 hL (by simp; omega) hl1
  clear hl1 hc1
  go_enter Yba.func9, Yba.ntmps9
  go_wp2_with (first
    | (go_at_call 10; refine H.mono ?_; rintro e w' ⟨rfl, hb2⟩; have hbx := box_cells hb2; have hb3 := box_below hb2; have hc3 := (hb3.cell (p := ⟨cb, 0, none⟩) hcb).trans hc)
    | (go_at_call 11; refine (add_any cb g L base _ _ hc3 hL hbase nb0 nb1).mono ?_; rintro e w' ⟨rfl, rfl⟩))
  go_ret2
  exact ⟨rfl, hb3⟩

/-- What 'tail' answers. -/
def startAt (f : Nat → Int) (L head base : Nat) : Nat := addOf L base (numAt f L head)
def lenAt (f : Nat → Int) (L head base : Nat) : Int := if head + 32 ≤ L then numAt f L (startAt f L head base) else 0
def violT (f : Nat → Int) (L head base : Nat) : Int := if head + 32 ≤ L then violAt L (startAt f L head base) else 4

set_option maxHeartbeats 400000 in
set_option maxRecDepth 100000 in
theorem tail_any (f : Nat → Int) (hb : ∀ i, Byte (f i)) (cb g L head base : Nat) (w : World) (hc : w.cell? ⟨cb, 0, none⟩ = some (.slice (some ⟨g, 0, none⟩) L L)) (hL : L ≤ 100000) (hcb : cb < w.heap.size) (hg : g < w.heap.size) (hl : Lies f g L w) (hbase : base ≤ 200000) :
    Calls Yba.prog 6 #[.pointer (some ⟨cb, 0, none⟩), .agg #[.int .i64 head, .int .i64 base]] w fun e w' => e = .returned (.tuple #[.int .i64 (startAt f L head base), .int .u64 (lenAt f L head base), .int .u8 (violT f L head base)]) ∧ Below w.heap.size w w' := by
  have hb1 : Below w.heap.size w (w.alloc (.cells #[.int .i64 head, .int .i64 base] 48)) := (Below.refl _ _).alloc (Nat.le_refl _) _
  have hc1 := (hb1.cell (p := ⟨cb, 0, none⟩) hcb).trans hc
  have hl1 := hl.below hb1 hg
  have H := deref_any f hb cb g L head base _ hc1 hL (by simp; omega) (by simp; omega) hl1 hbase
  clear hl1 hc1
  by_cases h : head + 32 ≤ L
  · rw [show violAt L head = 0 from if_pos h] at H
    rw [lenAt, violT, if_pos h, if_pos h]
    go_enter Yba.func6, Yba.ntmps6
    go_wp2_with (first
      | (go_at_call 9; refine H.mono ?_; rintro e w' ⟨rfl, hb2⟩; have hb3 := box_below hb2; have hc3 := (hb3.cell (p := ⟨cb, 0, none⟩) hcb).trans hc; have hl3 := hl.below hb3 hg; have hg3 : g < w'.heap.size := by have := hb3.size; omega)
      | (go_at_call 10; refine (number_any f hb cb g L _ _ hc3 hL hg3 hl3).mono ?_; rintro e w' ⟨rfl, hb4⟩))
    go_ret3
    exact ⟨rfl, hb3.trans (hb4.mono hb3.size)⟩
  · rw [show violAt L head = 4 from if_neg h] at H
    rw [lenAt, violT, if_neg h, if_neg h]
    go_enter Yba.func6, Yba.ntmps6
    go_wp2_with (go_at_call 9; refine H.mono ?_; rintro e w' ⟨rfl, hb2⟩; have hb3 := box_below hb2)
    go_ret3
    exact ⟨rfl, hb3⟩

end Go.Proofs.Ybulkbwmu
