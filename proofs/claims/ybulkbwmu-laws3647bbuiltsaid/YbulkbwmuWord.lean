/-
  A 32-byte word as ABI lays it, read back: plain arithmetic.
-/
import Derived.Test.YbulkbwmuArr
namespace Go.Proofs.Ybulkbwmu
open Go.RowKit

def put8Z (v : Int) : List Int := [v / 72057594037927936, v / 281474976710656 % 256, v / 1099511627776 % 256, v / 4294967296 % 256, v / 16777216 % 256, v / 65536 % 256, v / 256 % 256, v % 256]
def wordZ (h v : Int) : List Int := h :: (List.replicate 23 0 ++ put8Z v)
theorem wordZ_length (h v : Int) : (wordZ h v).length = 32 := by simp [wordZ, put8Z]

theorem wordZ_byte (h v : Int) (h0 : Byte h) (v0 : 0 ≤ v) (v1 : v ≤ 18446744073709551615) : ∀ z ∈ wordZ h v, Byte z := by
  intro z hz
  simp [wordZ, put8Z] at hz
  unfold Byte
  rcases hz with rfl | ⟨_, rfl⟩ | rfl | rfl | rfl | rfl | rfl | rfl | rfl | rfl
  · exact h0
  all_goals omega

theorem wordZ_at (h v : Int) (F : Nat → Int) (o : Nat) (hF : ∀ j, j < 32 → F (o + j) = (wordZ h v).getD j 0) :
    F o = h ∧ (∀ j, 0 < j → j < 24 → F (o + j) = 0) ∧ (∀ j, j < 8 → F (o + 24 + j) = (put8Z v).getD j 0) := by
  refine ⟨by simpa [wordZ] using hF 0 (by omega), fun j h0 h1 => ?_, fun j hj => ?_⟩
  · obtain ⟨i, rfl⟩ : ∃ i, j = i + 1 := ⟨j - 1, by omega⟩
    rw [hF (i + 1) (by omega)]
    simp only [wordZ, List.getD_eq_getElem?_getD, List.getElem?_cons_succ]
    rw [List.getElem?_append_left (by simp; omega), List.getElem?_replicate, if_pos (by omega)]
    rfl
  · rw [Nat.add_assoc, hF (24 + j) (by omega)]
    simp only [wordZ, List.getD_eq_getElem?_getD, show 24 + j = (23 + j) + 1 by omega, List.getElem?_cons_succ]
    rw [List.getElem?_append_right (by simp), List.length_replicate, Nat.add_sub_cancel_left]

theorem be_put8 (v : Int) (F : Nat → Int) (o : Nat) (hF : ∀ j, j < 8 → F (o + j) = (put8Z v).getD j 0) : beAt F o = v := by
  have e0 := hF 0 (by omega); have e1 := hF 1 (by omega); have e2 := hF 2 (by omega); have e3 := hF 3 (by omega)
  have e4 := hF 4 (by omega); have e5 := hF 5 (by omega); have e6 := hF 6 (by omega); have e7 := hF 7 (by omega)
  simp only [put8Z, List.getD_eq_getElem?_getD, List.getElem?_cons_zero, List.getElem?_cons_succ, Option.getD_some, Nat.add_zero] at e0 e1 e2 e3 e4 e5 e6 e7
  unfold beAt be8
  rw [e0, e1, e2, e3, e4, e5, e6, e7]
  omega

theorem numOf_word (h v : Int) (F : Nat → Int) (hb : ∀ i, Byte (F i)) (o : Nat) (hF : ∀ j, j < 32 → F (o + j) = (wordZ h v).getD j 0) :
    numOf F o = if h = 0 then v else 18446744073709551615 := by
  obtain ⟨f0, f1, f2⟩ := wordZ_at h v F o hF
  by_cases hh : h = 0
  · rw [if_pos hh, numOf_lo F hb o fun j hj => ?_]
    · exact be_put8 v F (o + 24) f2
    · by_cases hj0 : j = 0
      · rw [hj0, Nat.add_zero, f0, hh]
      · exact f1 j (by omega) hj
  · rw [if_neg hh]
    exact numOf_hi F hb o 0 (by omega) (by rw [Nat.add_zero, f0]; exact hh)

/-- The calldata that the law builds. -/
def dataZ (f k : Nat → Int) (n m : Nat) (a1 a3 : Int) : List Int :=
  wordZ 0 (32 + (n : Int)) ++ ((List.range n).map f ++ (wordZ a3 a1 ++ (List.range m).map k))

theorem dataZ_length (f k : Nat → Int) (n m : Nat) (a1 a3 : Int) : (dataZ f k n m a1 a3).length = 64 + n + m := by
  simp [dataZ, wordZ_length]; omega

theorem dataZ_byte (f k : Nat → Int) (hf : ∀ i, Byte (f i)) (hk : ∀ i, Byte (k i)) (n m : Nat) (a1 a3 : Int) (hn : n ≤ 1024) (h10 : 0 ≤ a1) (h11 : a1 ≤ 18446744073709551615) (h3 : Byte a3) (i : Nat) :
    Byte ((dataZ f k n m a1 a3).getD i 0) := by
  have hall : ∀ z ∈ dataZ f k n m a1 a3, Byte z := by
    intro z hz
    simp only [dataZ, List.mem_append, List.mem_map] at hz
    rcases hz with h | ⟨j, _, rfl⟩ | h | ⟨j, _, rfl⟩
    · exact wordZ_byte 0 _ (by unfold Byte; omega) (by omega) (by omega) z h
    · exact hf j
    · exact wordZ_byte a3 a1 h3 h10 h11 z h
    · exact hk j
  rw [List.getD_eq_getElem?_getD]
  by_cases hi : i < (dataZ f k n m a1 a3).length
  · rw [List.getElem?_eq_getElem hi]
    exact hall _ (List.getElem_mem hi)
  · rw [List.getElem?_eq_none (by omega)]
    unfold Byte
    simp

theorem dataZ_first (f k : Nat → Int) (n m : Nat) (a1 a3 : Int) (j : Nat) (hj : j < 32) : (dataZ f k n m a1 a3).getD (0 + j) 0 = (wordZ 0 (32 + (n : Int))).getD j 0 := by
  rw [Nat.zero_add, List.getD_eq_getElem?_getD, List.getD_eq_getElem?_getD, dataZ, List.getElem?_append_left (by rw [wordZ_length]; exact hj)]

theorem dataZ_second (f k : Nat → Int) (n m : Nat) (a1 a3 : Int) (j : Nat) (hj : j < 32) : (dataZ f k n m a1 a3).getD (32 + n + j) 0 = (wordZ a3 a1).getD j 0 := by
  rw [List.getD_eq_getElem?_getD, List.getD_eq_getElem?_getD, dataZ, List.getElem?_append_right (by rw [wordZ_length]; omega), wordZ_length,
    List.getElem?_append_right (by simp; omega), List.length_map, List.length_range, List.getElem?_append_left (by rw [wordZ_length]; omega)]
  congr 2
  omega

end Go.Proofs.Ybulkbwmu
