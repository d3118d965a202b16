/-
  LawS3647BModel: the walk.
-/
import Derived.Test.YbulkbwmuSame
import Derived.Laws.CopyOwn
namespace Go.Proofs.Ybulkbwmu
open Go.RowKit

theorem Yba.info5 : (Yba.prog.info? 5).map (fun i => (i.zero, i.size, i.bytes)) = some (some (.int .u8 0), 1, 1) := by kernel_rfl
theorem Yba.size5 : (Yba.prog.info? 5).map (·.size) = some 1 := by kernel_rfl

/-- The bytes f of a slice that came in: it has none, or they lie in a block that was there. -/
def Data (f : Nat → Int) (w : World) (a : Option Addr) (L : Nat) : Prop :=
  L = 0 ∨ ∃ b off, a = some ⟨b, off, none⟩ ∧ b < w.heap.size ∧ ∀ i, i < L → w.cell? ⟨b, off + i, none⟩ = some (.int .u8 (f i))

theorem Data.below {f : Nat → Int} {w w' : World} {a : Option Addr} {L : Nat} (h : Data f w a L) (hb : Below w.heap.size w w') : Data f w' a L := by
  rcases h with h | ⟨b, off, h1, h2, h3⟩
  · exact .inl h
  · exact .inr ⟨b, off, h1, by have := hb.size; omega, fun i hi => (hb.cell (p := ⟨b, off + i, none⟩) h2).trans (h3 i hi)⟩

theorem same_any (f : Nat → Int) (g L ca cb : Nat) (a : Option Addr) (w : World) (hL : L ≤ 100000) (hg : g < w.heap.size) (hl : Lies f g L w) (hd : Data f w a L) :
    Calls Yba.prog 7 #[.slice (some ⟨g, 0, none⟩) L ca, .slice a L cb] w fun e w' => e = .returned (.bool true) ∧ Below w.heap.size w w' := by
  rcases hd with rfl | ⟨b, off, rfl, h2, h3⟩
  · exact same_none _ _ _ _ w
  · exact same_some f g b off L ca cb w hL hg h2 hl h3

/-- A whole row that the call has made: its block. -/
theorem owns_block {w : World} {base e g n : Nat} {xs : List Value} (h : w.ownsRow base e 1 (.slice (some ⟨g, 0, none⟩) n n) n xs) : w.heap[g]? = some (.cells xs.toArray e (0, 0)) := by
  rcases h.2 with ⟨h1, _⟩ | ⟨g', cap, cur, h1, _, h2, _, _, h3, h4⟩
  · simp at h1
  · simp only [Value.slice.injEq, Option.some.injEq, Addr.mk.injEq, and_true, true_and] at h1
    obtain ⟨rfl, rfl⟩ := h1
    rw [h2]
    rw [List.take_of_length_le (by simp [h3])] at h4
    rw [← h4]

theorem lies_of_block {w : World} {g L : Nat} {f : Nat → Int} {cs : List Value} {t : TypeId} {fr : Nat × Nat} (h : w.heap[g]? = some (.cells cs.toArray t fr)) (hc : ∀ i, i < L → cs[i]? = some (.int .u8 (f i))) : Lies f g L w := by
  intro i hi
  rw [World.cell?]
  simp [h, hc i hi]

theorem copy_in (f : Nat → Int) (B g L cap0 : Nat) (a0 : Option Addr) (w w1 : World) (cur : List Value) (hblk : w1.heap[g]? = some (.cells cur.toArray 5 (0, 0))) (hcur : cur.length = L) (hdat : Data f w1 a0 L) (hb : Below B w w1) (hBg : B ≤ g) :
    ∃ w2, Sem.run Yba.prog (Builtin.copy_ #[22, 22] 3 #[.slice (some ⟨g, 0, none⟩) L L, .slice a0 L cap0]) w1 = .ok (.int .i64 (L : Int)) w2 ∧ Lies f g L w2 ∧ Below B w w2 ∧ w2.heap.size = w1.heap.size := by
  rcases hdat with rfl | ⟨b, off, rfl, h2, h3⟩
  · exact ⟨w1, run_copy_none w1 22 22 3 5 _ _ 0 0 0 cap0 Yba.underlying22 Yba.size5 rfl, fun i hi => by omega, hb, rfl⟩
  · have hlen : ((List.range L).map fun i => Value.int .u8 (f i)).length = L := by simp
    have hr := run_copy_row (P := Yba.prog) w1 22 22 3 5 g 0 L L ⟨b, off, none⟩ L cap0 cur.toArray 5 ((List.range L).map fun i => Value.int .u8 (f i)) Yba.underlying22 Yba.size5 hblk (by simp)
      (fun j v hj => by
        have hjL : j < L := by have := (List.getElem?_eq_some_iff.1 hj).1; simpa using this
        rw [Addr.add_lit, h3 j hjL]
        simp [List.getElem?_range hjL] at hj
        rw [hj]) (by simp [hcur]) (fun v hv => by
        simp only [List.mem_map] at hv
        obtain ⟨i, _, rfl⟩ := hv
        rfl)
    rw [hlen] at hr
    refine ⟨_, hr, ?_, below_setRow hb hBg _, by simp [World.setRow]⟩
    have hset := setRow_heap w1 g _ ((List.take 0 cur ++ ((List.range L).map fun i => Value.int .u8 (f i)) ++ List.drop (0 + L) cur).toArray) _ _ hblk
    refine lies_of_block hset fun i hi => ?_
    simp [List.getElem?_append, hi]

def aggHead : Value → Bool
  | .agg ⟨_ :: _⟩ => true
  | _ => false
theorem Yba.zero44 : ((Yba.prog.info? 44).map (fun i => (i.zero.map aggHead))) = some (some true) := by kernel_rfl

/-- The zero value of a checker: some cells, one at least. -/
theorem zero_checker : ∃ (z : Value) (r : List Value), ∀ W : World, Sem.run Yba.prog (zeroValue 44) W = .ok (.agg (z :: r).toArray) W := by
  obtain ⟨i, hi, h1⟩ := Option.map_eq_some_iff.1 Yba.zero44
  obtain ⟨v, hv, h2⟩ := Option.map_eq_some_iff.1 h1
  match v, h2 with
  | .agg ⟨z :: r⟩, _ => exact ⟨z, r, fun W => by simp [zeroValue, typeInfo, hi, hv]⟩

set_option maxHeartbeats 2000000 in
set_option maxRecDepth 100000 in
theorem model_in (f : Nat → Int) (hb : ∀ i, Byte (f i)) (a0 : Option Addr) (L cap0 : Nat) (a1 a2 : Int) (w : World) (hL : L ≤ 4096) (hdat : Data f w a0 L)
    (hd base : Nat) (hhd : a1 % ((L : Int) + 1) = hd) (hbs : a2 % ((L : Int) + 40) = base) (h10 : 0 ≤ a1) (h11 : a1 ≤ 4294967295) (h20 : 0 ≤ a2) (h21 : a2 ≤ 4294967295) :
    Calls Yba.prog 3 #[.slice a0 L cap0, .int .u32 a1, .int .u32 a2] w fun e w' => e = .returned (.bool true) ∧ Below w.heap.size w w' := by
  obtain ⟨i0, hi, hz0, hz1, hz2⟩ := info_parts Yba.info5
  obtain ⟨z44, r, h44⟩ := zero_checker
  have hhd1 : hd ≤ L := by have := Int.emod_lt_of_pos a1 (show (0 : Int) < (L : Int) + 1 by omega); omega
  have hbs1 : base ≤ L + 39 := by have := Int.emod_lt_of_pos a2 (show (0 : Int) < (L : Int) + 40 by omega); omega
  go_enter Yba.func3, Yba.ntmps3
  go_wp2_with (at_make; refine wpList_make_full _ rfl _ _ 22 rfl w.heap.size 5 i0 (.int .u8 0) 1 Yba.underlying22 hi hz0 hz1 _ _ _ _ L rfl rfl rfl rfl ?m1 ?m2 ?m3 ?_)
  case m1 => rw [hz2]; omega
  case m2 => unfold maxLen; omega
  case m3 => exact Nat.le_refl _
  intro w1 hown hgrow
  have hblk := owns_block hown
  have hb1 : Below w.heap.size w w1 := (Below.refl _ _).grown hgrow (Nat.le_refl _) (fun _ h => by cases h)
  have hlen := hown.1
  obtain ⟨w2, hcopy, hl, hb2, hsz⟩ := copy_in f w.heap.size w.heap.size L cap0 a0 w w1 _ hblk (by simpa using hlen) (hdat.below hb1) hb1 (Nat.le_refl _)
  have hg2 : w.heap.size < w2.heap.size := by
    rw [hsz]
    rcases Nat.lt_or_ge w.heap.size w1.heap.size with h | h
    · exact h
    · rw [Array.getElem?_eq_none h] at hblk; cases hblk
  have hdat2 := hdat.below hb2
  clear hown hgrow hlen hblk hsz hb1 hdat
  go_wp2_with fail
  refine (num_any f hb w.heap.size L hd w2 (by omega) (by omega) hl).mono ?_
  rintro e w' ⟨rfl, rfl⟩
  have hbx : Below w'.heap.size w' (w'.alloc (.cells (.slice (some ⟨w.heap.size, 0, none⟩) L L :: r).toArray 44)) := (Below.refl _ _).alloc (Nat.le_refl _) _
  have HT := tail_any f hb w'.heap.size w.heap.size L hd base (w'.alloc (.cells (.slice (some ⟨w.heap.size, 0, none⟩) L L :: r).toArray 44)) (by simp) (by omega) (by simp) (by simp; omega) (hl.below hbx hg2) (by omega)
  have hlB := hl.below hbx hg2
  have hdB := hdat2.below hbx
  have hbB : Below w.heap.size w (w'.alloc (.cells (.slice (some ⟨w.heap.size, 0, none⟩) L L :: r).toArray 44)) := hb2.alloc (by omega) _
  have hgB : w.heap.size < (w'.alloc (.cells (.slice (some ⟨w.heap.size, 0, none⟩) L L :: r).toArray 44)).heap.size := by simp; omega
  obtain ⟨n0, n1⟩ := numAt_bounds f hb L hd
  obtain ⟨S, hS⟩ : ∃ S, S = startAt f L hd base := ⟨_, rfl⟩
  rw [lenAt, violT, ← hS] at HT
  have hS2 : S = addOf L base (numAt f L hd) := hS
  clear hS hbx hhd hbs hcopy hdat2 hg2 hb2
  obtain ⟨n, hn⟩ : ∃ n, n = numAt f L hd := ⟨_, rfl⟩
  rw [← hn] at n0 n1 hS2 ⊢
  obtain ⟨v, hv⟩ : ∃ v, v = violAt L hd := ⟨_, rfl⟩
  rw [← hv]
  by_cases h : hd + 32 ≤ L
  · rw [if_pos h, if_pos h] at HT
    rw [violAt, if_pos h] at hv
    subst hv
    clear hn
    by_cases hx : L < base
    · have hS1 : S ≤ L + 1 ∧ L + 1 ≤ S := by rw [hS2, addOf, if_pos (Or.inl hx)]; omega
      clear hS2
      obtain ⟨hS3, hS4⟩ := hS1
      go_wp2_with fail
      rw [show ((L : Int) + 1) = (S : Int) from by omega]
      refine (num_any f hb w.heap.size L S _ (by omega) (by omega) hl).mono ?_
      rintro e w' ⟨rfl, rfl⟩
      go_wp2_with (first
        | (go_at_call 6; refine HT.mono ?_; rintro e w3 ⟨rfl, hb3⟩; have hg3 := Nat.lt_of_lt_of_le hgB hb3.size; have hl3 := hlB.below hb3 hgB; have hd3 := hdB.below hb3; have hbb3 := hbB.trans (hb3.mono (Nat.le_of_lt hgB)))
        | (go_at_call 7; refine (same_any f w.heap.size L L cap0 a0 _ (by omega) hg3 hl3 hd3).mono ?_; rintro e w4 ⟨rfl, hb4⟩))
      go_ret
      exact ⟨rfl, hbb3.trans (hb4.mono (Nat.le_of_lt hg3))⟩
    · by_cases hy : (L : Int) - base < n
      · have hS1 : S ≤ L + 1 ∧ L + 1 ≤ S := by rw [hS2, addOf, if_pos (Or.inr hy)]; omega
        clear hS2
        obtain ⟨hS3, hS4⟩ := hS1
        go_wp2_with fail
        rw [show ((L : Int) + 1) = (S : Int) from by omega]
        refine (num_any f hb w.heap.size L S _ (by omega) (by omega) hl).mono ?_
        rintro e w' ⟨rfl, rfl⟩
        go_wp2_with (first
          | (go_at_call 6; refine HT.mono ?_; rintro e w3 ⟨rfl, hb3⟩; have hg3 := Nat.lt_of_lt_of_le hgB hb3.size; have hl3 := hlB.below hb3 hgB; have hd3 := hdB.below hb3; have hbb3 := hbB.trans (hb3.mono (Nat.le_of_lt hgB)))
          | (go_at_call 7; refine (same_any f w.heap.size L L cap0 a0 _ (by omega) hg3 hl3 hd3).mono ?_; rintro e w4 ⟨rfl, hb4⟩))
        go_ret
        exact ⟨rfl, hbb3.trans (hb4.mono (Nat.le_of_lt hg3))⟩
      · have hS1 : (S : Int) ≤ base + n ∧ base + n ≤ (S : Int) := by rw [hS2, addOf, if_neg (by omega)]; omega
        clear hS2
        obtain ⟨hS3, hS4⟩ := hS1
        go_wp2_with fail
        rw [show ((base : Int) + n) = (S : Int) from by omega]
        refine (num_any f hb w.heap.size L S _ (by omega) (by omega) hl).mono ?_
        rintro e w' ⟨rfl, rfl⟩
        go_wp2_with (first
          | (go_at_call 6; refine HT.mono ?_; rintro e w3 ⟨rfl, hb3⟩; have hg3 := Nat.lt_of_lt_of_le hgB hb3.size; have hl3 := hlB.below hb3 hgB; have hd3 := hdB.below hb3; have hbb3 := hbB.trans (hb3.mono (Nat.le_of_lt hgB)))
          | (go_at_call 7; refine (same_any f w.heap.size L L cap0 a0 _ (by omega) hg3 hl3 hd3).mono ?_; rintro e w4 ⟨rfl, hb4⟩))
        go_ret
        exact ⟨rfl, hbb3.trans (hb4.mono (Nat.le_of_lt hg3))⟩
  · rw [if_neg h, if_neg h] at HT
    rw [violAt, if_neg h] at hv
    rw [numAt, if_neg h] at hn
    subst hv
    subst hn
    by_cases hx : L < base
    · have hS1 : S ≤ L + 1 ∧ L + 1 ≤ S := by rw [hS2, addOf, if_pos (Or.inl hx)]; omega
      clear hS2
      obtain ⟨hS3, hS4⟩ := hS1
      go_wp2_with fail
      rw [show ((L : Int) + 1) = (S : Int) from by omega]
      go_wp2_with (first
        | (go_at_call 6; refine HT.mono ?_; rintro e w3 ⟨rfl, hb3⟩; have hg3 := Nat.lt_of_lt_of_le hgB hb3.size; have hl3 := hlB.below hb3 hgB; have hd3 := hdB.below hb3; have hbb3 := hbB.trans (hb3.mono (Nat.le_of_lt hgB)))
        | (go_at_call 7; refine (same_any f w.heap.size L L cap0 a0 _ (by omega) hg3 hl3 hd3).mono ?_; rintro e w4 ⟨rfl, hb4⟩))
      go_ret
      exact ⟨rfl, hbb3.trans (hb4.mono (Nat.le_of_lt hg3))⟩
    · have hS1 : (S : Int) ≤ base ∧ base ≤ (S : Int) := by rw [hS2, addOf, if_neg (by omega)]; simp
      clear hS2
      obtain ⟨hS3, hS4⟩ := hS1
      go_wp2_with (first
        | (go_at_call 6; refine HT.mono ?_; rintro e w3 ⟨rfl, hb3⟩; have hg3 := Nat.lt_of_lt_of_le hgB hb3.size; have hl3 := hlB.below hb3 hgB; have hd3 := hdB.below hb3; have hbb3 := hbB.trans (hb3.mono (Nat.le_of_lt hgB)))
        | (go_at_call 7; refine (same_any f w.heap.size L L cap0 a0 _ (by omega) hg3 hl3 hd3).mono ?_; rintro e w4 ⟨rfl, hb4⟩))
      go_ret
      exact ⟨rfl, hbb3.trans (hb4.mono (Nat.le_of_lt hg3))⟩

set_option maxHeartbeats 400000 in
set_option maxRecDepth 100000 in
theorem model_long (a0 : Option Addr) (L cap0 : Nat) (a1 a2 : Int) (w : World) (hL : 4096 < L) :
    Calls Yba.prog 3 #[.slice a0 L cap0, .int .u32 a1, .int .u32 a2] w fun e w' => e = .returned (.bool true) ∧ Below w.heap.size w w' := by
  go_enter Yba.func3, Yba.ntmps3
  go_wp2
  go_ret
  exact ⟨rfl, Below.refl _ _⟩

end Go.Proofs.Ybulkbwmu
