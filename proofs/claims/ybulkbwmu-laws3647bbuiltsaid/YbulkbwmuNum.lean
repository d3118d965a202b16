/-
  The law's own helpers: zzs3647bnum, zzs3647bsame: by their contracts.
-/
import Derived.Test.YbulkbwmuTail2
namespace Go.Proofs.Ybulkbwmu
open Go.RowKit

/-- The first m of the bytes from o on, the greatest first. -/
def pv (f : Nat → Int) (o : Nat) : Nat → Int
  | 0 => 0
  | m + 1 => pv f o m * 256 + f (o + m)

theorem pv_bound (f : Nat → Int) (hb : ∀ i, Byte (f i)) (o m : Nat) (hm : m ≤ 7) : 0 ≤ pv f o m ∧ pv f o m ≤ 72057594037927935 := by
  have h0 := hb o; have h1 := hb (o + 1); have h2 := hb (o + 2); have h3 := hb (o + 3)
  have h4 := hb (o + 4); have h5 := hb (o + 5); have h6 := hb (o + 6)
  unfold Byte at *
  rcases (show m = 0 ∨ m = 1 ∨ m = 2 ∨ m = 3 ∨ m = 4 ∨ m = 5 ∨ m = 6 ∨ m = 7 by omega) with rfl | rfl | rfl | rfl | rfl | rfl | rfl | rfl <;> simp only [pv, Nat.add_zero] <;> omega

theorem pv_eight (f : Nat → Int) (o : Nat) : pv f o 8 = beAt f o := by
  simp only [pv, beAt, be8, Nat.add_zero]
  omega

theorem or_low (x y : Int) (h0 : 0 ≤ x) (h1 : x ≤ 72057594037927935) (hy : Byte y) : bits .or .u64 (x * 256) y = x * 256 + y := by
  obtain ⟨y0, y1⟩ := hy
  exact bits_join .u64 64 (by decide) wraps_u64 8 (x * 256) y (by omega) (by omega) (by omega) y0 (by omega) (by omega)

theorem numOf_lo (f : Nat → Int) (hb : ∀ i, Byte (f i)) (o : Nat) (h : ∀ j, j < 24 → f (o + j) = 0) : numOf f o = beAt f (o + 24) := by
  have e0 := (beAt_zero f hb o).2 fun i hi => h i (by omega)
  have e1 := (beAt_zero f hb (o + 8)).2 fun i hi => by rw [Nat.add_assoc]; exact h (8 + i) (by omega)
  have e2 := (beAt_zero f hb (o + 16)).2 fun i hi => by rw [Nat.add_assoc]; exact h (16 + i) (by omega)
  rw [numOf, if_neg]
  simp [hiB, e0, e1, e2]

theorem numOf_hi (f : Nat → Int) (hb : ∀ i, Byte (f i)) (o k : Nat) (hk : k < 24) (h : f (o + k) ≠ 0) : numOf f o = 18446744073709551615 := by
  rw [numOf, if_pos]
  simp only [hiB, decide_eq_true_eq]
  rcases (show k < 8 ∨ (8 ≤ k ∧ k < 16) ∨ 16 ≤ k by omega) with h1 | ⟨h1, h2⟩ | h1
  · left
    intro e
    exact h ((beAt_zero f hb o).1 e k h1)
  · right; left
    intro e
    have := (beAt_zero f hb (o + 8)).1 e (k - 8) (by omega)
    rw [show o + 8 + (k - 8) = o + k by omega] at this
    exact h this
  · right; right
    intro e
    have := (beAt_zero f hb (o + 16)).1 e (k - 16) (by omega)
    rw [show o + 16 + (k - 16) = o + k by omega] at this
    exact h this

set_option maxHeartbeats 800000 in
set_option maxRecDepth 100000 in
theorem num_in (f : Nat → Int) (hb : ∀ i, Byte (f i)) (g L off : Nat) (w : World) (hL : L ≤ 100000) (h : off + 32 ≤ L) (hl : Lies f g L w) :
    Calls Yba.prog 5 #[.slice (some ⟨g, 0, none⟩) L L, .int .i64 off] w fun e w' => e = .returned (.tuple #[.int .u64 (numOf f off), .int .u8 0]) ∧ w' = w := by
  have n1 : ¬ (L : Int) - off < 32 := by omega
  go_enter Yba.func5, Yba.ntmps5
  go_wp2
  go_loop [6] (fun i => ∃ k : Nat, k ≤ 24 ∧ i = .int .i64 k ∧ ∀ j, j < k → f (off + j) = 0) (fun i => 24 - (intOf i).toNat)
  case atStart => exact ⟨0, Nat.zero_le _, rfl, fun j hj => by omega⟩
  case round =>
    obtain ⟨k, hk, rfl, hz⟩ := hrel
    have HZ : Hid (∀ j, j < k → f (off + j) = 0) := hz
    clear hz
    by_cases hlt : k < 24
    · have hc := hl (off + k) (by omega)
      by_cases hf : f (off + k) = 0
      · have hc0 : w.cell? ⟨g, off + k, none⟩ = some (.int .u8 0) := by rw [hc, hf]
        have HF : Hid (f (off + k) = 0) := hf
        clear hc hf
        go_wp2
        go_round
        case rel => exact ⟨k + 1, by omega, by go_num, fun j hj => by
          rcases (show j < k ∨ j = k by omega) with h1 | rfl
          · exact HZ.out j h1
          · exact HF.out⟩
        case measure => simp [intOf]; omega
      · have hne : (f (off + k) != 0) = true := by simpa using hf
        go_wp2
        go_ret2
        exact ⟨by rw [numOf_hi f hb off k hlt hf]; rfl, rfl⟩
    · obtain rfl : k = 24 := by omega
      go_wp2
      go_loop [7, 8] (fun n i => ∃ m : Nat, m ≤ 8 ∧ i = .int .i64 (24 + m : Nat) ∧ n = .int .u64 (pv f (off + 24) m)) (fun _ i => 32 - (intOf i).toNat)
      case atStart => exact ⟨0, Nat.zero_le _, rfl, rfl⟩
      case round =>
        obtain ⟨m, hm, rfl, rfl⟩ := hrel
        by_cases hlt2 : m < 8
        · obtain ⟨p0, p1⟩ := pv_bound f hb (off + 24) m (by omega)
          have hc := hl (off + (24 + m)) (by omega)
          have hbm := hb (off + (24 + m))
          have HP : Hid (pv f (off + 24) (m + 1) = pv f (off + 24) m * 256 + f (off + (24 + m))) := by
            show pv f (off + 24) m * 256 + f (off + 24 + m) = _
            rw [Nat.add_assoc]
          have HO : Hid (bits .or .u64 (pv f (off + 24) m * 256) (f (off + (24 + m))) = pv f (off + 24) m * 256 + f (off + (24 + m))) := or_low _ _ p0 p1 hbm
          obtain ⟨bm0, bm1⟩ := hbm
          go_wp2
          go_round
          case rel => exact ⟨m + 1, by omega, by go_num, by rw [HP.out, ← HO.out]⟩
          case measure => simp [intOf]; omega
        · obtain rfl : m = 8 := by omega
          go_wp2
          go_ret2
          exact ⟨by rw [numOf_lo f hb off HZ.out, ← pv_eight]; rfl, rfl⟩

set_option maxHeartbeats 400000 in
set_option maxRecDepth 100000 in
theorem num_out (g L off : Nat) (w : World) (hL : L ≤ 100000) (ho : off ≤ 200000) (h : L < off + 32) :
    Calls Yba.prog 5 #[.slice (some ⟨g, 0, none⟩) L L, .int .i64 off] w fun e w' => e = .returned (.tuple #[.int .u64 0, .int .u8 4]) ∧ w' = w := by
  have n1 : (L : Int) - off < 32 := by omega
  go_enter Yba.func5, Yba.ntmps5
  go_wp2
  go_ret2
  exact ⟨rfl, rfl⟩

theorem num_any (f : Nat → Int) (hb : ∀ i, Byte (f i)) (g L off : Nat) (w : World) (hL : L ≤ 100000) (ho : off ≤ 200000) (hl : Lies f g L w) :
    Calls Yba.prog 5 #[.slice (some ⟨g, 0, none⟩) L L, .int .i64 off] w fun e w' => e = .returned (.tuple #[.int .u64 (numAt f L off), .int .u8 (violAt L off)]) ∧ w' = w := by
  by_cases h : off + 32 ≤ L
  · rw [numAt, violAt, if_pos h, if_pos h]
    exact num_in f hb g L off w hL h hl
  · rw [numAt, violAt, if_neg h, if_neg h]
    exact num_out g L off w hL ho (by omega)

end Go.Proofs.Ybulkbwmu
