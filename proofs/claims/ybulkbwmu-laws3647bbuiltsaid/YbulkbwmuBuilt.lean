/-
  LawS3647BBuilt: the walk.
-/
import Derived.Test.YbulkbwmuWord
namespace Go.Proofs.Ybulkbwmu
open Go.RowKit

/-- A new [32]byte: all zeros. -/
def z32 : List Value := List.replicate 32 (.int .u8 0)
def z32a : Array Value := #[.int .u8 0, .int .u8 0, .int .u8 0, .int .u8 0, .int .u8 0, .int .u8 0, .int .u8 0, .int .u8 0, .int .u8 0, .int .u8 0, .int .u8 0, .int .u8 0, .int .u8 0, .int .u8 0, .int .u8 0, .int .u8 0, .int .u8 0, .int .u8 0, .int .u8 0, .int .u8 0, .int .u8 0, .int .u8 0, .int .u8 0, .int .u8 0, .int .u8 0, .int .u8 0, .int .u8 0, .int .u8 0, .int .u8 0, .int .u8 0, .int .u8 0, .int .u8 0]
theorem z32a_eq : z32a = z32.toArray := rfl

/-- What the laying of a new [32]byte leaves. -/
theorem new_arr (w : World) : Arr w.heap.size z32 (w.alloc (.cells z32a 51)) ∧ w.heap.size < (w.alloc (.cells z32a 51)).heap.size ∧ w.grownBy (w.alloc (.cells z32a 51)) none := by
  refine ⟨⟨fun j v hj => ?_, fun j => ?_⟩, by simp, World.grownBy_alloc _ _ _⟩
  · rw [World.cell?_alloc_mark, z32a_eq]; simpa using hj
  · rw [frozen?_alloc_cells]; simp [World.frozen?]

/-- L bytes as cells. -/
def bs (f : Nat → Int) (L : Nat) : List Value := (List.range L).map fun i => Value.int .u8 (f i)
theorem bs_length (f : Nat → Int) (L : Nat) : (bs f L).length = L := by simp [bs]
theorem bs_get (f : Nat → Int) (L j : Nat) (h : j < L) : (bs f L)[j]? = some (.int .u8 (f j)) := by simp [bs, List.getElem?_range h]
theorem bs_one (f : Nat → Int) (L : Nat) : ∀ u ∈ bs f L, u.oneCell' = true := by
  intro u hu
  simp only [bs, List.mem_map] at hu
  obtain ⟨i, _, rfl⟩ := hu
  rfl
theorem data_news {f : Nat → Int} {w : World} {a : Option Addr} {L : Nat} (h : Data f w a L) : ∀ ad, a = some ad → ∀ j u, (bs f L)[j]? = some u → w.cell? (ad.add j) = some u := by
  intro ad had j u hj
  have hjL : j < L := by have := (List.getElem?_eq_some_iff.1 hj).1; simpa [bs] using this
  rcases h with rfl | ⟨b, off, h1, _, h3⟩
  · omega
  · rw [h1] at had
    cases had
    rw [Addr.add_lit, h3 j hjL, ← bs_get f L j hjL, hj]

def word (h : Int) (v : Int) : List Value := .int .u8 h :: (List.replicate 23 (.int .u8 0) ++ put8 v)
theorem word_length (h v : Int) : (word h v).length = 32 := by simp [word, put8]
theorem word_one (h v : Int) : ∀ u ∈ word h v, u.oneCell' = true := by
  intro u hu
  simp [word, put8] at hu
  rcases hu with rfl | ⟨_, rfl⟩ | rfl | rfl | rfl | rfl | rfl | rfl | rfl | rfl <;> rfl
theorem Arr.news {g : Nat} {xs : List Value} {w : World} (h : Arr g xs w) : ∀ j u, xs[j]? = some u → w.cell? ((⟨g, 0, none⟩ : Addr).add j) = some u := by
  intro j u hj
  rw [Addr.add_lit, Nat.zero_add]
  exact h.1 j u hj

theorem word_map (h v : Int) : word h v = (wordZ h v).map (Value.int .u8) := by simp [word, wordZ, put8, put8Z]
theorem bs_map (f : Nat → Int) (n : Nat) : bs f n = ((List.range n).map f).map (Value.int .u8) := by simp [bs]

/-- What 'tail' answers over the calldata that the law builds. -/
theorem built_tail (f k : Nat → Int) (hf : ∀ i, Byte (f i)) (hk : ∀ i, Byte (k i)) (n m : Nat) (a1 a3 : Int) (hn : n ≤ 1024) (h10 : 0 ≤ a1) (h11 : a1 ≤ 18446744073709551615) (h3 : Byte a3) (F : Nat → Int) (hF : F = fun i => (dataZ f k n m a1 a3).getD i 0) :
    startAt F (64 + n + m) 0 0 = 32 + n ∧ lenAt F (64 + n + m) 0 0 = (if a3 = 0 then a1 else 18446744073709551615) ∧ violT F (64 + n + m) 0 0 = 0 := by
  have hb : ∀ i, Byte (F i) := fun i => by rw [hF]; exact dataZ_byte f k hf hk n m a1 a3 hn h10 h11 h3 i
  have e1 : numOf F 0 = 32 + (n : Int) := by
    rw [numOf_word 0 (32 + (n : Int)) F hb 0 fun j hj => by rw [hF]; exact dataZ_first f k n m a1 a3 j hj, if_pos rfl]
  have e2 : numOf F (32 + n) = if a3 = 0 then a1 else 18446744073709551615 :=
    numOf_word a3 a1 F hb (32 + n) fun j hj => by rw [hF]; exact dataZ_second f k n m a1 a3 j hj
  have e3 : startAt F (64 + n + m) 0 0 = 32 + n := by
    rw [startAt, numAt, if_pos (by omega), e1, addOf, if_neg (by omega)]
    omega
  refine ⟨e3, ?_, ?_⟩
  · rw [lenAt, if_pos (by omega), e3, numAt, if_pos (by omega), e2]
  · rw [violT, if_pos (by omega), e3, violAt, if_pos (by omega)]

theorem wrap_ok (n : Nat) (h : n ≤ 1024) : IntKind.u64.wrap (IntKind.i64.wrap (32 + (n : Int))) = 32 + (n : Int) := by
  rw [IntKind.wrap_i64, IntKind.wrap_u64]
  omega

set_option maxHeartbeats 2000000 in
set_option maxRecDepth 100000 in
theorem built_in (f k : Nat → Int) (hf : ∀ i, Byte (f i)) (hk : ∀ i, Byte (k i)) (a0 a2 : Option Addr) (n cap0 m cap2 : Nat) (a1 a3 : Int) (w : World) (hn : n ≤ 1024) (hm : m ≤ 1024) (hdat : Data f w a0 n) (hdat2 : Data k w a2 m)
    (hnil : a0 = none → n = 0 ∧ cap0 = 0) (hnil2 : a2 = none → m = 0 ∧ cap2 = 0)
    (h10 : 0 ≤ a1) (h11 : a1 ≤ 18446744073709551615) (h30 : 0 ≤ a3) (h31 : a3 ≤ 255) :
    Calls Yba.prog 4 #[.slice a0 n cap0, .int .u64 a1, .slice a2 m cap2, .int .u8 a3] w fun e w' => e = .returned (.bool true) ∧ Below w.heap.size w w' := by
  obtain ⟨i0, hi, hz0, hz1, hz2⟩ := info_parts Yba.info5
  obtain ⟨z44, r, h44⟩ := zero_checker
  have g1 : ¬ (1024 : Int) < (n : Int) := by omega
  have g2 : ¬ (1024 : Int) < (m : Int) := by omega
  go_enter Yba.func4, Yba.ntmps4
  go_wp2_with (at_make; refine wpList_make_own _ rfl _ _ 22 rfl w.heap.size 5 i0 (.int .u8 0) 1 Yba.underlying22 hi hz0 hz1 _ _ _ (64 + n + m) rfl rfl (by omega) (by rw [hz2]; omega) (by unfold maxLen; omega) (Nat.le_refl _) ?_)
  intro w1 hown hgrow
  have hb1 : Below w.heap.size w w1 := (Below.refl _ _).grown hgrow (Nat.le_refl _) (fun _ h => by cases h)
  clear hgrow
  go_wp2
  obtain ⟨hA, hAs, hAg⟩ := new_arr w1
  rw [show w1.alloc (.cells #[.int .u8 0, .int .u8 0, .int .u8 0, .int .u8 0, .int .u8 0, .int .u8 0, .int .u8 0, .int .u8 0, .int .u8 0, .int .u8 0, .int .u8 0, .int .u8 0, .int .u8 0, .int .u8 0, .int .u8 0, .int .u8 0, .int .u8 0, .int .u8 0, .int .u8 0, .int .u8 0, .int .u8 0, .int .u8 0, .int .u8 0, .int .u8 0, .int .u8 0, .int .u8 0, .int .u8 0, .int .u8 0, .int .u8 0, .int .u8 0, .int .u8 0, .int .u8 0] 51) = w1.alloc (.cells z32a 51) from rfl]
  obtain ⟨w2, hw2⟩ : ∃ w2, w2 = w1.alloc (.cells z32a 51) := ⟨_, rfl⟩
  rw [← hw2] at hA hAs hAg ⊢
  clear hw2
  have hown2 := hown.kept hAg (by simp [Value.ownBlock])
  have hb2 : Below w.heap.size w w2 := hb1.grown hAg hb1.size (fun _ h => by cases h)
  have hP := put64_arr w1.heap.size (32 + (n : Int)) (by omega) (by omega) z32 rfl w2.drew hAs hA
  go_region_with (go_at_call 8; rw [wrap_ok n hn]; refine hP.mono ?_; rintro e w3 ⟨rfl, hA3, hg3⟩)
  have hlt : w.heap.size < w1.heap.size := (hown.lt w.heap.size rfl).2
  have hown3 := hown2.drew.kept hg3 (.inr (by simp [Value.ownBlock]; omega))
  have hb3 : Below w.heap.size w w3 := hb2.drew.grown hg3 (by have := hb2.size; exact this) (fun j hj => by cases hj; omega)
  have hAA : Arr w1.heap.size (word 0 (32 + (n : Int))) w3 := hA3
  clear hA hAs hAg hown hown2 hP hA3 hb2 hg3
  go_wp2_with (at_builtin; refine wpList_append_fits _ rfl _ _ 22 rfl w.heap.size 5 i0 1 Yba.underlying22 hi hz1 w.heap.size 0 (64 + n + m) _ rfl hown3 ⟨w1.heap.size, 0, none⟩ 32 32 (word 0 (32 + (n : Int))) rfl (word_length _ _) hAA.news (word_one _ _) (by omega) ?_)
  intro w4 hown4 hg4
  have hb4 : Below w.heap.size w w4 := hb3.grown hg4 hb3.size (fun j hj => by cases hj; exact Nat.le_refl _)
  clear hown3 hAA hg4 hb3 hb1 hlt
  go_wp2_with (at_builtin; refine wpList_append_fits_any _ rfl _ _ 22 rfl w.heap.size 5 i0 1 Yba.underlying22 hi hz1 w.heap.size 32 (64 + n + m) _ rfl hown4 a0 n cap0 (bs f n) rfl (by rw [bs_length, Nat.mul_one]) hnil (data_news (hdat.below hb4)) (bs_one _ _) (by omega) ?_)
  intro w5 hown5 hg5
  have hb5 : Below w.heap.size w w5 := hb4.grown hg5 hb4.size (fun j hj => by cases hj; exact Nat.le_refl _)
  clear hown4 hg5 hb4
  go_wp2
  obtain ⟨hA, hAs, hAg⟩ := new_arr w5
  rw [show w5.alloc (.cells #[.int .u8 0, .int .u8 0, .int .u8 0, .int .u8 0, .int .u8 0, .int .u8 0, .int .u8 0, .int .u8 0, .int .u8 0, .int .u8 0, .int .u8 0, .int .u8 0, .int .u8 0, .int .u8 0, .int .u8 0, .int .u8 0, .int .u8 0, .int .u8 0, .int .u8 0, .int .u8 0, .int .u8 0, .int .u8 0, .int .u8 0, .int .u8 0, .int .u8 0, .int .u8 0, .int .u8 0, .int .u8 0, .int .u8 0, .int .u8 0, .int .u8 0, .int .u8 0] 51) = w5.alloc (.cells z32a 51) from rfl]
  obtain ⟨w6, hw6⟩ : ∃ w6, w6 = w5.alloc (.cells z32a 51) := ⟨_, rfl⟩
  rw [← hw6] at hA hAs hAg ⊢
  clear hw6
  have hlt : w.heap.size < w5.heap.size := (hown5.lt w.heap.size rfl).2
  have hown6 := hown5.kept hAg (by simp [Value.ownBlock])
  have hb6 : Below w.heap.size w w6 := hb5.grown hAg hb5.size (fun _ h => by cases h)
  have hP := put64_arr w5.heap.size a1 h10 h11 z32 rfl w6.drew hAs hA
  go_region_with (go_at_call 8; refine hP.mono ?_; rintro e w7 ⟨rfl, hA7, hg7⟩)
  have hown7 := hown6.drew.kept hg7 (.inr (by simp [Value.ownBlock]; omega))
  have hb7 : Below w.heap.size w w7 := hb6.drew.grown hg7 (by have := hb6.size; exact this) (fun j hj => by cases hj; omega)
  have hA8 : Arr w5.heap.size (word a3 a1) (w7.setCell ⟨w5.heap.size, 0, none⟩ (.int .u8 a3)) := hA7.set 0 (by simp [z32, put8]) (.int .u8 a3)
  have hc0 : w7.cell? ⟨w5.heap.size, 0, none⟩ = some (.int .u8 0) := hA7.1 0 _ rfl
  have hf0 := hA7.2 0
  have hg8 := grown_setCell w7 w5.heap.size 0 (.int .u8 a3)
  have hown8 := hown7.kept hg8 (.inr (by simp [Value.ownBlock]; omega))
  have hb8 := hb7.grown hg8 hb7.size (fun j hj => by cases hj; omega)
  clear hA hAs hAg hown5 hown6 hown7 hP hA7 hb5 hb6 hb7 hg7 hg8
  go_wp2_with (at_builtin; refine wpList_append_fits _ rfl _ _ 22 rfl w.heap.size 5 i0 1 Yba.underlying22 hi hz1 w.heap.size (32 + n) (64 + n + m) _ rfl hown8 ⟨w5.heap.size, 0, none⟩ 32 32 (word a3 a1) rfl (word_length _ _) hA8.news (word_one _ _) (by omega) ?_)
  intro w9 hown9 hg9
  have hb9 : Below w.heap.size w w9 := hb8.grown hg9 hb8.size (fun j hj => by cases hj; exact Nat.le_refl _)
  clear hown8 hA8 hg9 hb8 hc0 hf0 hlt
  go_wp2_with (at_builtin; refine wpList_append_fits_any _ rfl _ _ 22 rfl w.heap.size 5 i0 1 Yba.underlying22 hi hz1 w.heap.size (32 + n + 32) (64 + n + m) _ rfl hown9 a2 m cap2 (bs k m) rfl (by rw [bs_length, Nat.mul_one]) hnil2 (data_news (hdat2.below hb9)) (bs_one _ _) (by omega) ?_)
  intro wa hownA hgA
  have hbA : Below w.heap.size w wa := hb9.grown hgA hb9.size (fun j hj => by cases hj; exact Nat.le_refl _)
  clear hown9 hgA hb9
  have hl3 : Byte a3 := ⟨h30, h31⟩
  obtain ⟨F, hF⟩ : ∃ F : Nat → Int, F = fun i => (dataZ f k n m a1 a3).getD i 0 := ⟨_, rfl⟩
  have hFb : ∀ i, Byte (F i) := fun i => by rw [hF]; exact dataZ_byte f k hf hk n m a1 a3 hn h10 h11 hl3 i
  obtain ⟨t1, t2, t3⟩ := built_tail f k hf hk n m a1 a3 hn h10 h11 hl3 F hF
  rw [show 32 + n + 32 + m = 64 + n + m from by omega] at hownA ⊢
  have hlies : Lies F w.heap.size (64 + n + m) wa := fun j hj => by
    rw [hownA.cellAt j (by omega), hF, word_map, word_map, bs_map, bs_map]
    have hj' : j < (dataZ f k n m a1 a3).length := by rw [dataZ_length]; exact hj
    have e : (dataZ f k n m a1 a3)[j]? = some ((dataZ f k n m a1 a3).getD j 0) := by simp [List.getD, List.getElem?_eq_getElem hj']
    simp only [← List.map_append, List.getElem?_map]
    rw [show wordZ 0 (32 + (n : Int)) ++ ((List.range n).map f ++ (wordZ a3 a1 ++ (List.range m).map k)) = dataZ f k n m a1 a3 from rfl, e]
    rfl
  have hltA : w.heap.size < wa.heap.size := (hownA.lt w.heap.size rfl).2
  have hbx : Below wa.heap.size wa (wa.alloc (.cells (.slice (some ⟨w.heap.size, 0, none⟩) (64 + n + m) (64 + n + m) :: r).toArray 44)) := (Below.refl _ _).alloc (Nat.le_refl _) _
  have HT0 := tail_any F hFb wa.heap.size w.heap.size (64 + n + m) 0 0 (wa.alloc (.cells (.slice (some ⟨w.heap.size, 0, none⟩) (64 + n + m) (64 + n + m) :: r).toArray 44)) (by simp) (by omega) (by simp) (by simp; omega) (hlies.below hbx hltA) (by omega)
  rw [t1, t2, t3] at HT0
  have HT : Calls Yba.prog 6 #[.pointer (some ⟨wa.heap.size, 0, none⟩), .agg #[.int .i64 0, .int .i64 0]] (wa.alloc (.cells (.slice (some ⟨w.heap.size, 0, none⟩) (64 + n + m) (64 + n + m) :: r).toArray 44))
      fun e w' => e = .returned (.tuple #[.int .i64 (32 + (n : Int)), .int .u64 (if a3 = 0 then a1 else 18446744073709551615), .int .u8 0]) ∧ Below w.heap.size w w' :=
    HT0.mono fun e w' ⟨he, hw⟩ => ⟨he.trans (by simp), (hbA.alloc (Nat.le_of_lt hltA) _).trans (hw.mono (by simp; omega))⟩
  clear HT0 hbx hlies t1 t2 t3 hF hFb hownA
  by_cases h3 : a3 = 0
  · rw [if_pos h3] at HT
    subst h3
    go_wp2_with (go_at_call 6; refine HT.mono ?_; rintro e w3 ⟨rfl, hb3⟩)
    go_ret
    exact ⟨rfl, hb3⟩
  · rw [if_neg h3] at HT
    go_wp2_with (go_at_call 6; refine HT.mono ?_; rintro e w3 ⟨rfl, hb3⟩)
    go_ret
    exact ⟨rfl, hb3⟩

set_option maxHeartbeats 400000 in
set_option maxRecDepth 100000 in
theorem built_long (a0 a2 : Option Addr) (n cap0 m cap2 : Nat) (a1 a3 : Int) (w : World) (h : 1024 < n ∨ 1024 < m) :
    Calls Yba.prog 4 #[.slice a0 n cap0, .int .u64 a1, .slice a2 m cap2, .int .u8 a3] w fun e w' => e = .returned (.bool true) ∧ Below w.heap.size w w' := by
  by_cases h1 : 1024 < n
  · go_enter Yba.func4, Yba.ntmps4
    go_wp2
    go_ret
    exact ⟨rfl, Below.refl _ _⟩
  · have h2 : 1024 < m := by omega
    go_enter Yba.func4, Yba.ntmps4
    go_wp2
    go_ret
    exact ⟨rfl, Below.refl _ _⟩

end Go.Proofs.Ybulkbwmu
