/-
  checker.number, add, deref, tail: by their contracts.
-/
import Derived.Test.YbulkbwmuBin
import Derived.Deep.RegionHeld3
import Derived.Laws.BitsAllLaws
namespace Go.Proofs.Ybulkbwmu
open Go.RowKit

/-- The eight bytes from o on. -/
def beAt (f : Nat → Int) (o : Nat) : Int := be8 (f o) (f (o + 1)) (f (o + 2)) (f (o + 3)) (f (o + 4)) (f (o + 5)) (f (o + 6)) (f (o + 7))

theorem beAt_bounds (f : Nat → Int) (hb : ∀ i, Byte (f i)) (o : Nat) : 0 ≤ beAt f o ∧ beAt f o ≤ 18446744073709551615 := by
  have h0 := hb o; have h1 := hb (o + 1); have h2 := hb (o + 2); have h3 := hb (o + 3)
  have h4 := hb (o + 4); have h5 := hb (o + 5); have h6 := hb (o + 6); have h7 := hb (o + 7)
  unfold Byte at *
  unfold beAt be8
  omega

theorem beAt_zero (f : Nat → Int) (hb : ∀ i, Byte (f i)) (o : Nat) : beAt f o = 0 ↔ ∀ i, i < 8 → f (o + i) = 0 := by
  have h0 := hb o; have h1 := hb (o + 1); have h2 := hb (o + 2); have h3 := hb (o + 3)
  have h4 := hb (o + 4); have h5 := hb (o + 5); have h6 := hb (o + 6); have h7 := hb (o + 7)
  unfold Byte at *
  unfold beAt be8
  constructor
  · intro h i hi
    rcases (show i = 0 ∨ i = 1 ∨ i = 2 ∨ i = 3 ∨ i = 4 ∨ i = 5 ∨ i = 6 ∨ i = 7 by omega) with rfl | rfl | rfl | rfl | rfl | rfl | rfl | rfl <;> first | omega | (rw [Nat.add_zero]; omega)
  · intro h
    have e0 := h 0 (by omega); have e1 := h 1 (by omega); have e2 := h 2 (by omega); have e3 := h 3 (by omega)
    have e4 := h 4 (by omega); have e5 := h 5 (by omega); have e6 := h 6 (by omega); have e7 := h 7 (by omega)
    rw [Nat.add_zero] at e0
    omega

theorem or_zero (a b : Int) (a0 : 0 ≤ a) (a1 : a ≤ 18446744073709551615) (b0 : 0 ≤ b) (b1 : b ≤ 18446744073709551615) :
    (0 ≤ bits .or .u64 a b ∧ bits .or .u64 a b ≤ 18446744073709551615) ∧ (bits .or .u64 a b = 0 ↔ a = 0 ∧ b = 0) := by
  rw [u64_or a b a0 (by omega) b0 (by omega)]
  have h : a.toNat ||| b.toNat < 2 ^ 64 := Nat.or_lt_two_pow (by omega) (by omega)
  have h2 : a.toNat ||| b.toNat = 0 ↔ a.toNat = 0 ∧ b.toNat = 0 := Nat.or_eq_zero_iff
  omega

/-- One of the first 24 bytes is set. -/
def hiB (f : Nat → Int) (o : Nat) : Bool := decide (beAt f o ≠ 0 ∨ beAt f (o + 8) ≠ 0 ∨ beAt f (o + 16) ≠ 0)

/-- The word at o as a number, or the largest uint64. -/
def numOf (f : Nat → Int) (o : Nat) : Int := if hiB f o then 18446744073709551615 else beAt f (o + 24)

theorem numOf_bounds (f : Nat → Int) (hb : ∀ i, Byte (f i)) (o : Nat) : 0 ≤ numOf f o ∧ numOf f o ≤ 18446744073709551615 := by
  unfold numOf
  split
  · omega
  · exact beAt_bounds f hb _

theorem hi_test (f : Nat → Int) (hb : ∀ i, Byte (f i)) (o : Nat) : (bits .or .u64 (bits .or .u64 (beAt f o) (beAt f (o + 8))) (beAt f (o + 16)) != 0) = hiB f o := by
  have h0 := beAt_bounds f hb o
  have h1 := beAt_bounds f hb (o + 8)
  have h2 := beAt_bounds f hb (o + 16)
  obtain ⟨⟨r0, r1⟩, r2⟩ := or_zero _ _ h0.1 h0.2 h1.1 h1.2
  obtain ⟨_, r3⟩ := or_zero _ _ r0 r1 h2.1 h2.2
  rw [Bool.eq_iff_iff]
  simp only [bne_iff_ne, ne_eq, r3, r2, hiB, decide_eq_true_eq]
  omega

/-- The L bytes f lie in block g from its head on. -/
def Lies (f : Nat → Int) (g L : Nat) (w : World) : Prop := ∀ i, i < L → w.cell? ⟨g, i, none⟩ = some (.int .u8 (f i))

theorem Lies.below {f : Nat → Int} {g L B : Nat} {w w' : World} (h : Lies f g L w) (hb : Below B w w') (hg : g < B) : Lies f g L w' :=
  fun i hi => (hb.cell (p := ⟨g, i, none⟩) hg).trans (h i hi)

theorem uint64_at (f : Nat → Int) (hb : ∀ i, Byte (f i)) (g o n c L : Nat) (w : World) (hl : Lies f g L w) (hn : 8 ≤ n) (ho : o + 8 ≤ L) :
    Calls Yba.prog 12 #[.agg #[], .slice (some ⟨g, o, none⟩) n c] w fun e w' => e = .returned (.int .u64 (beAt f o)) ∧ Below w.heap.size w w' :=
  uint64_any g o n c _ _ _ _ _ _ _ _ w hn (hb _) (hb _) (hb _) (hb _) (hb _) (hb _) (hb _) (hb _)
    (hl o (by omega)) (hl (o + 1) (by omega)) (hl (o + 2) (by omega)) (hl (o + 3) (by omega)) (hl (o + 4) (by omega)) (hl (o + 5) (by omega)) (hl (o + 6) (by omega)) (hl (o + 7) (by omega))

theorem uint64_S (f : Nat → Int) (hb : ∀ i, Byte (f i)) (g o n c L : Nat) (w W : World) (hg : g < w.heap.size) (hS : Lies f g L W ∧ Below w.heap.size w W) (hn : 8 ≤ n) (ho : o + 8 ≤ L) :
    Calls Yba.prog 12 #[.agg #[], .slice (some ⟨g, o, none⟩) n c] W fun e w' => e = .returned (.int .u64 (beAt f o)) ∧ (Lies f g L w' ∧ Below w.heap.size w w') :=
  (uint64_at f hb g o n c L W hS.1 hn ho).mono fun _ _ ⟨he, hw⟩ =>
    ⟨he, hS.1.below hw (by have := hS.2.size; omega), hS.2.trans (hw.mono hS.2.size)⟩

set_option maxHeartbeats 400000 in
set_option maxRecDepth 100000 in
theorem number_out (cb g L : Nat) (off : Int) (w : World) (hc : w.cell? ⟨cb, 0, none⟩ = some (.slice (some ⟨g, 0, none⟩) L L)) (hL : L ≤ 100000) (h : (L : Int) - 32 < off) :
    Calls Yba.prog 10 #[.pointer (some ⟨cb, 0, none⟩), .int .i64 off] w fun e w' => e = .returned (.tuple #[.int .u64 0, .int .u8 4]) ∧ w' = w := by
  go_enter Yba.func10, Yba.ntmps10
  go_wp2
  go_ret2
  exact ⟨rfl, rfl⟩

set_option maxHeartbeats 2000000 in
set_option maxRecDepth 100000 in
theorem number_in (f : Nat → Int) (hb : ∀ i, Byte (f i)) (cb g L off : Nat) (w : World) (hc : w.cell? ⟨cb, 0, none⟩ = some (.slice (some ⟨g, 0, none⟩) L L)) (hL : L ≤ 100000) (h : off + 32 ≤ L) (hg : g < w.heap.size) (hl : Lies f g L w) :
    Calls Yba.prog 10 #[.pointer (some ⟨cb, 0, none⟩), .int .i64 off] w fun e w' => e = .returned (.tuple #[.int .u64 (numOf f off), .int .u8 0]) ∧ Below w.heap.size w w' := by
  have n0 : ¬ L = off := by omega
  have n1 : (off : Int) ≤ (L : Int) - 32 := by omega
  go_enter Yba.func10, Yba.ntmps10
  go_wp2
  rw [Nat.add_sub_cancel_left]
  obtain ⟨C, hC⟩ : ∃ C, C = L - off := ⟨_, rfl⟩
  rw [← hC]
  have hC1 : 32 ≤ C := by omega
  have m8 : ¬ C = 8 := by omega
  have m16 : ¬ C = 16 := by omega
  have m24 : ¬ C = 24 := by omega
  clear hC
  go_region_held3 (fun w' => Lies f g L w' ∧ Below w.heap.size w w') (first | assumption | exact ⟨hl, (Below.refl _ _).drew⟩)
    (first | (go_at_call 12; refine (uint64_S f hb g _ _ _ L w _ hg ?_ ?_ ?_).mono ?_; (assumption); (omega); (omega); rintro e w' ⟨rfl, hS'⟩))
  have ht := hi_test f hb off
  have hS : Lies f g L w' ∧ Below w.heap.size w w' := by assumption
  cases hh : hiB f off with
  | true =>
    rw [hh] at ht
    go_wp2
    go_ret2
    exact ⟨by rw [numOf, hh]; rfl, hS.2⟩
  | false =>
    rw [hh] at ht
    go_wp2
    go_region_held3 (fun w' => Lies f g L w' ∧ Below w.heap.size w w') (first | assumption | exact ⟨hS.1, hS.2.drew⟩)
      (first | (go_at_call 12; refine (uint64_S f hb g _ _ _ L w _ hg ?_ ?_ ?_).mono ?_; (assumption); (omega); (omega); rintro e w' ⟨rfl, hS'⟩))
    have hS2 : Lies f g L w' ∧ Below w.heap.size w w' := by assumption
    go_wp2
    go_ret2
    exact ⟨by rw [numOf, hh]; rfl, hS2.2⟩

/-- What 'number' answers at o: the number; the violation. -/
def numAt (f : Nat → Int) (L o : Nat) : Int := if o + 32 ≤ L then numOf f o else 0
def violAt (L o : Nat) : Int := if o + 32 ≤ L then 0 else 4

theorem numAt_bounds (f : Nat → Int) (hb : ∀ i, Byte (f i)) (L o : Nat) : 0 ≤ numAt f L o ∧ numAt f L o ≤ 18446744073709551615 := by
  unfold numAt
  split
  · exact numOf_bounds f hb o
  · omega

theorem number_any (f : Nat → Int) (hb : ∀ i, Byte (f i)) (cb g L off : Nat) (w : World) (hc : w.cell? ⟨cb, 0, none⟩ = some (.slice (some ⟨g, 0, none⟩) L L)) (hL : L ≤ 100000) (hg : g < w.heap.size) (hl : Lies f g L w) :
    Calls Yba.prog 10 #[.pointer (some ⟨cb, 0, none⟩), .int .i64 off] w fun e w' => e = .returned (.tuple #[.int .u64 (numAt f L off), .int .u8 (violAt L off)]) ∧ Below w.heap.size w w' := by
  by_cases h : off + 32 ≤ L
  · rw [numAt, violAt, if_pos h, if_pos h]
    exact number_in f hb cb g L off w hc hL h hg hl
  · rw [numAt, violAt, if_neg h, if_neg h]
    exact (number_out cb g L off w hc hL (by omega)).mono fun e w' ⟨he, hw⟩ => ⟨he, hw ▸ Below.refl _ _⟩

/-- What 'add' answers. -/
def addOf (L off : Nat) (n : Int) : Nat := if L < off ∨ (L : Int) - off < n then L + 1 else off + n.toNat

set_option maxHeartbeats 400000 in
set_option maxRecDepth 100000 in
theorem add_any (cb g L off : Nat) (n : Int) (w : World) (hc : w.cell? ⟨cb, 0, none⟩ = some (.slice (some ⟨g, 0, none⟩) L L)) (hL : L ≤ 100000) (ho : off ≤ 200000) (hn0 : 0 ≤ n) (hn1 : n ≤ 18446744073709551615) :
    Calls Yba.prog 11 #[.pointer (some ⟨cb, 0, none⟩), .int .i64 off, .int .u64 n] w fun e w' => e = .returned (.int .i64 (addOf L off n)) ∧ w' = w := by
  by_cases h1 : L < off
  · rw [addOf, if_pos (Or.inl h1)]
    go_enter Yba.func11, Yba.ntmps11
    go_wp2
    go_ret
    exact ⟨rfl, rfl⟩
  · by_cases h2 : (L : Int) - off < n
    · rw [addOf, if_pos (Or.inr h2)]
      go_enter Yba.func11, Yba.ntmps11
      go_wp2
      go_ret
      exact ⟨rfl, rfl⟩
    · rw [addOf, if_neg (by omega)]
      go_enter Yba.func11, Yba.ntmps11
      go_wp2
      go_ret
      exact ⟨ret_int (by omega), rfl⟩

end Go.Proofs.Ybulkbwmu
