/-
  zzs3647bsame: by its contract, over two slices that hold the same bytes.
-/
import Derived.Test.YbulkbwmuNum
namespace Go.Proofs.Ybulkbwmu
open Go.RowKit

theorem below_drews {B : Nat} {a w : World} (h : Below B a w) (n : Nat) : Below B a (w.drewN n) := ⟨h.os, h.tape, h.output, h.size, h.block⟩

set_option maxHeartbeats 400000 in
set_option maxRecDepth 100000 in
theorem same_none (aa ab : Option Addr) (ca cb : Nat) (w : World) :
    Calls Yba.prog 7 #[.slice aa 0 ca, .slice ab 0 cb] w fun e w' => e = .returned (.bool true) ∧ Below w.heap.size w w' := by
  go_enter Yba.func7, Yba.ntmps7
  go_wp2
  refine wp_loop_rounds 1 ?_
  rw [rounds_succ]
  go_wp2
  go_ret
  exact ⟨rfl, Below.refl _ _⟩

set_option maxHeartbeats 400000 in
set_option maxRecDepth 100000 in
theorem same_some (f : Nat → Int) (g b off L ca cb : Nat) (w : World) (hL : L ≤ 100000) (hg : g < w.heap.size) (hb : b < w.heap.size) (hl : Lies f g L w)
    (hd : ∀ i, i < L → w.cell? ⟨b, off + i, none⟩ = some (.int .u8 (f i))) :
    Calls Yba.prog 7 #[.slice (some ⟨g, 0, none⟩) L ca, .slice (some ⟨b, off, none⟩) L cb] w fun e w' => e = .returned (.bool true) ∧ Below w.heap.size w w' := by
  go_enter Yba.func7, Yba.ntmps7
  go_wp2
  go_loopw [5] (fun i wr => ∃ k : Nat, k ≤ L ∧ i = .int .i64 k ∧ Below w.heap.size w wr) (fun i _ => L - (intOf i).toNat)
  case atStart => exact ⟨0, Nat.zero_le _, rfl, Below.refl _ _⟩
  case round =>
    obtain ⟨k, hk, rfl, hbel⟩ := hrel
    by_cases hlt : k < L
    · have c1 : wr.cell? ⟨g, k, none⟩ = some (.int .u8 (f k)) := (hbel.cell (p := ⟨g, k, none⟩) hg).trans (hl k hlt)
      have c2 : wr.cell? ⟨b, off + k, none⟩ = some (.int .u8 (f k)) := (hbel.cell (p := ⟨b, off + k, none⟩) hb).trans (hd k hlt)
      have k1 : (k : Int) < (L : Int) := by omega
      have k0 : (0 : Int) ≤ (k : Int) := by omega
      go_wp2
      go_quiet (fail)
      go_wp2
      go_roundw
      case rel => exact ⟨k + 1, by omega, by go_num, below_drews hbel _⟩
      case measure => simp [intOf]; omega
    · go_wp2
      go_ret
      exact ⟨rfl, hbel⟩

end Go.Proofs.Ybulkbwmu
