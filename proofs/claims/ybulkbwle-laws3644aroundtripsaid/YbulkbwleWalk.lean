/-
  LawS3644ARoundTrip: the walk.
-/
import Derived.Test.YbulkbwleDecimal
namespace Go.Proofs.Ybulkbwle
open Go.RowKit

theorem Yba.info5 : (Yba.prog.info? 5).map (fun i => (i.zero, i.size, i.bytes)) = some (some (.int .u8 0), 1, 1) := by kernel_rfl

theorem owns_shape {w : World} {base e size n : Nat} {v : Value} {xs : List Value} (h : w.ownsRow base e size v n xs) : ∃ ao cap, v = .slice ao n cap := by
  rcases h.2 with ⟨rfl, rfl⟩ | ⟨g, cap, cur, rfl, _⟩
  · exact ⟨_, _, rfl⟩
  · exact ⟨_, _, rfl⟩

/-- Where something is owned the slice has an address. -/
theorem owns_some {w : World} {base e size n cap : Nat} {ao : Option Addr} {xs : List Value} (h : w.ownsRow base e size (.slice ao n cap) n xs) (hn : 0 < n) : ∃ g, ao = some ⟨g, 0, none⟩ := by
  rcases h.2 with ⟨h1, rfl⟩ | ⟨g, cap', cur, h1, _⟩
  · omega
  · simp only [Value.slice.injEq] at h1; exact ⟨g, h1.1⟩

/-- What is owned below B stays owned. -/
theorem owns_below {w w' : World} {base e size n : Nat} {v : Value} {xs : List Value} (h : w.ownsRow base e size v n xs) (hb : Below w.heap.size w w') : w'.ownsRow base e size v n xs := by
  refine h.kept (row := none) ⟨hb.os, hb.tape, hb.output, hb.size, fun k hk _ => hb.block k hk⟩ ?_
  cases v.ownBlock <;> simp

theorem ret_bool {a b : Bool} (h : a = b) : Ending.returned (.bool a) = .returned (.bool b) := by rw [h]

theorem rev_take (rv : List Int) (j : Nat) (hj : j < rv.length) : rv.reverse.take (j + 1) = rv.reverse.take j ++ [rv[rv.length - 1 - j]?.getD 0] := by
  rw [List.take_add_one, List.getElem?_reverse hj, List.getElem?_eq_getElem (show rv.length - 1 - j < rv.length by omega)]
  rfl

set_option maxHeartbeats 800000 in
set_option maxRecDepth 100000 in
theorem walk3 (a0 a1 : Int) (h00 : 0 ≤ a0) (h01 : a0 ≤ 18446744073709551615) (h10 : 0 ≤ a1) (h11 : a1 ≤ 255) (w : World) :
    Calls Yba.prog 3 #[.int .u64 a0, .int .u8 a1] w fun e w' => e = .returned (.bool true) ∧ Below w.heap.size w w' := by
  obtain ⟨i0, hi, hz0, hz1, hz2⟩ := info_parts Yba.info5
  go_enter Yba.func3, Yba.ntmps3
  go_wp2
  go_loopw [6, 7] (fun v m wr => ∃ (ao : Option Addr) (cap : Nat) (rv : List Int) (q : Int), 0 ≤ q ∧ q ≤ a0 / 2 ∧ m = .int .i64 q ∧ v = .slice ao rv.length cap ∧ wr.ownsRow w.heap.size 5 1 (.slice ao rv.length cap) rv.length (rv.map (Value.int .u8)) ∧ Digs rv ∧ rv.length ≤ 20 ∧ Hid (vr rv + 10 ^ rv.length * q = a0 / 2) ∧ Below w.heap.size w wr)
    (fun _ m _ => (intOf m).toNat)
  case atStart => exact ⟨none, 0, [], a0 / 2, by omega, by omega, rfl, rfl, World.ownsRow_nil _ _ _ _, fun _ h => by simp at h, by simp, by show _ = _; simp [vr], Below.refl _ _⟩
  case round =>
    obtain ⟨ao, cap, rv, q, hq0, hq1, rfl, rfl, hown, hdg, hfew, HV, hbel⟩ := hrel
    have hsize := hbel.size
    by_cases hq : 0 < q
    · have hlen := few _ _ _ HV.out hdg hq (by omega)
      go_wp2_with (at_builtin; refine wpList_append_own _ rfl _ _ 24 rfl w.heap.size 5 i0 (.int .u8 0) 1 1 Yba.underlying24 hi hz0 hz1 hz2 rfl (by decide) _ _ _ rfl (hown.alloc _) ⟨wr.heap.size, 0, none⟩ 1 1 [.int .u8 (48 + q % 10)] rfl rfl ?c1 ?c2 ?c3 ?c4 ?c5 ?_)
      case c1 =>
        intro j u hj
        match j, hj with
        | 0, hj => simp at hj; subst hj; simp [Addr.add]
      case c2 => intro u hu; simp at hu; subst hu; rfl
      case c3 => unfold maxLen; omega
      case c4 => omega
      case c5 => simp; omega
      intro v' w1 hown' hgrow _
      obtain ⟨ao', cap', rfl⟩ := owns_shape hown'
      have hb' : Below w.heap.size w w1 := (hbel.alloc (by omega) _).grown hgrow (by simp; omega) (fun j hj => (hown.lt j hj).1)
      have hstep := vr_step _ _ _ HV.out
      have hdg' := digs_snoc rv q hdg
      have HV' : Hid (vr (rv ++ [48 + q % 10]) + 10 ^ (rv ++ [48 + q % 10]).length * (q / 10) = a0 / 2) := hstep
      clear hstep
      go_wp2
      go_roundw
      case rel => exact ⟨ao', cap', rv ++ [48 + q % 10], q / 10, by omega, by omega, rfl, by simp, by simpa using hown', hdg', by simp; omega, HV', hb'⟩
      case measure => simp [intOf]; omega
    · obtain rfl : q = 0 := by omega
      have HN : Hid (vr rv = a0 / 2) := by have := HV.out; show _ = _; simpa using this
      clear HV hq hq0 hq1
      obtain ⟨wa, rfl⟩ : ∃ x, x = wr := ⟨_, rfl⟩
      go_wp2_with (at_make; refine wpList_make_own _ rfl _ _ 24 rfl wa.heap.size 5 i0 (.int .u8 0) 1 Yba.underlying24 hi hz0 hz1 _ _ _ (rv.length + 4) rfl rfl (by omega) ?m1 ?m2 ?m3 ?_)
      case m1 => rw [hz2]; omega
      case m2 => unfold maxLen; omega
      case m3 => exact Nat.le_refl _
      intro w2 hownB hgrowB
      have hbel2 : Below wa.heap.size wa w2 := (Below.refl _ _).grown hgrowB (Nat.le_refl _) (fun _ h => by cases h)
      obtain ⟨z, hz⟩ : ∃ z : Nat, (z : Int) = a1 % 4 := ⟨(a1 % 4).toNat, by omega⟩
      have hz4 : z < 4 := by omega
      have hz5 : (z : Int) ≤ a1 % 4 := by omega
      have hz6 : a1 % 4 ≤ (z : Int) := by omega
      clear hz
      go_wp2
      go_loopw [8, 9] (fun b i wq => ∃ k : Nat, k ≤ z ∧ i = .int .i64 k ∧ b = .slice (some ⟨wa.heap.size, 0, none⟩) k (rv.length + 4) ∧ wq.ownsRow wa.heap.size 5 1 (.slice (some ⟨wa.heap.size, 0, none⟩) k (rv.length + 4)) k ((List.replicate k (48 : Int)).map (Value.int .u8)) ∧ Below wa.heap.size wa wq)
        (fun _ i _ => z - (intOf i).toNat)
      case atStart => exact ⟨0, Nat.zero_le _, rfl, rfl, hownB, hbel2⟩
      case round =>
        clear hownB hgrowB hbel2
        obtain ⟨k, hk, rfl, rfl, hownB, hbel2⟩ := hrel
        have hsize2 := hbel2.size
        by_cases hlt : k < z
        · go_wp2_with (at_builtin; refine wpList_append_fits _ rfl _ _ 24 rfl wa.heap.size 5 i0 1 Yba.underlying24 hi hz1 wa.heap.size k (rv.length + 4) _ rfl (hownB.alloc _) ⟨wr.heap.size, 0, none⟩ 1 1 [.int .u8 48] rfl rfl ?d1 ?d2 ?d3 ?_)
          case d1 =>
            intro j u hj
            match j, hj with
            | 0, hj => simp at hj; subst hj; simp [Addr.add]
          case d2 => intro u hu; simp at hu; subst hu; rfl
          case d3 => omega
          intro w3 hown3 hgrow3
          have hb3 : Below wa.heap.size wa w3 := (hbel2.alloc (by omega) _).grown hgrow3 (by simp; omega) (fun j hj => by cases hj; exact Nat.le_refl _)
          have hown3' : w3.ownsRow wa.heap.size 5 1 (.slice (some ⟨wa.heap.size, 0, none⟩) (k + 1) (rv.length + 4)) (k + 1) ((List.replicate (k + 1) (48 : Int)).map (Value.int .u8)) := by
            rw [List.replicate_succ']; simpa using hown3
          clear hown3 hgrow3
          go_wp2
          go_roundw
          case rel => exact ⟨k + 1, by omega, by go_num, rfl, hown3', hb3⟩
          case measure => simp [intOf]; omega
        · obtain rfl : k = z := by omega
          obtain ⟨wb, rfl⟩ : ∃ x, x = wr := ⟨_, rfl⟩
          have HO : Hid (wb.ownsRow wa.heap.size 5 1 (.slice (some ⟨wa.heap.size, 0, none⟩) k (rv.length + 4)) k ((List.replicate k (48 : Int)).map (Value.int .u8))) := hownB
          clear hownB hk hlt
          go_wp2
          go_loopw [8, 10] (fun b i wq => ∃ j : Nat, j ≤ rv.length ∧ i = .int .i64 ((rv.length : Int) - 1 - j) ∧ b = .slice (some ⟨wa.heap.size, 0, none⟩) (k + j) (rv.length + 4) ∧ wq.ownsRow wa.heap.size 5 1 (.slice (some ⟨wa.heap.size, 0, none⟩) (k + j) (rv.length + 4)) (k + j) ((List.replicate k (48 : Int) ++ rv.reverse.take j).map (Value.int .u8)) ∧ Below wa.heap.size wa wq)
            (fun _ i _ => (intOf i + 1).toNat)
          case atStart => exact ⟨0, Nat.zero_le _, by go_num, rfl, by simpa using HO.out, hbel2⟩
          case round =>
            clear HO hbel2
            obtain ⟨j, hj, rfl, rfl, hownB, hbel2⟩ := hrel
            have hsize2 := hbel2.size
            by_cases hlt : j < rv.length
            · have hown2 := owns_below hown hbel2
              obtain ⟨g, rfl⟩ := owns_some hown2 (by omega)
              have hc : wr.cell? ⟨g, rv.length - 1 - j, none⟩ = some (.int .u8 (rv[rv.length - 1 - j]?.getD 0)) := by
                rw [hown2.cellAt (rv.length - 1 - j) (by omega)]
                simp [List.getElem?_eq_getElem (show rv.length - 1 - j < rv.length by omega)]
              go_wp2_with (at_builtin; refine wpList_append_fits _ rfl _ _ 24 rfl wa.heap.size 5 i0 1 Yba.underlying24 hi hz1 wa.heap.size (k + j) (rv.length + 4) _ rfl (hownB.alloc _) ⟨wr.heap.size, 0, none⟩ 1 1 [.int .u8 (rv[rv.length - 1 - j]?.getD 0)] rfl rfl ?e1 ?e2 ?e3 ?_)
              case e1 =>
                intro j' u hj'
                match j', hj' with
                | 0, hj' => simp at hj'; subst hj'; simp [Addr.add]
              case e2 => intro u hu; simp at hu; subst hu; rfl
              case e3 => omega
              intro w3 hown3 hgrow3
              have hb3 : Below wa.heap.size wa w3 := (hbel2.alloc (by omega) _).grown hgrow3 (by simp; omega) (fun j hj => by cases hj; exact Nat.le_refl _)
              have hown3' : w3.ownsRow wa.heap.size 5 1 (.slice (some ⟨wa.heap.size, 0, none⟩) (k + (j + 1)) (rv.length + 4)) (k + (j + 1)) ((List.replicate k (48 : Int) ++ rv.reverse.take (j + 1)).map (Value.int .u8)) := by
                rw [rev_take rv j hlt]; simpa [Nat.add_assoc] using hown3
              clear hown3 hgrow3
              go_wp2
              go_roundw
              case rel => exact ⟨j + 1, by omega, by go_num, by simp [Nat.add_assoc], hown3', hb3⟩
              case measure => simp [intOf]; omega
            · obtain rfl : j = rv.length := by omega
              rw [List.take_of_length_le (by simp)] at hownB
              have hconv := run_convert_bytes_arg (P := Yba.prog) wr 24 5 Yba.underlying24 Yba.underlying5 wa.heap.size 0 (k + rv.length) (rv.length + 4) (List.replicate k (48 : Int) ++ rv.reverse) (by simp) (fun i hi => by
                rw [Nat.zero_add, hownB.cellAt i (by omega)]
                have hi' : i < (List.replicate k (48 : Int) ++ rv.reverse).length := by simp; omega
                simp only [List.getElem?_map, List.getElem?_eq_getElem hi', Option.map_some, List.getD]
                rfl) 9 Yba.underlying9
              obtain ⟨s, hs⟩ : ∃ s, s = strOfNums (List.replicate k (48 : Int) ++ rv.reverse) := ⟨_, rfl⟩
              rw [← hs] at hconv
              have HS : Hid (s = strOfNums (List.replicate k (48 : Int) ++ rv.reverse)) := hs
              have hval := (val_padded k rv).trans HN.out
              have hdig := digs_padded k rv hdg
              have HVal : Hid (val (List.replicate k (48 : Int) ++ rv.reverse) = a0 / 2) := hval
              clear hs hval hownB
              go_wp2_with (go_at_call 5; refine (decimal_any _ s HS (by simp; omega) hdig (by rw [HVal.out]; omega) _).mono ?_; rintro e w' ⟨rfl, hb⟩)
              go_ret
              exact ⟨ret_bool (by rw [HVal.out]; simp), (hbel.trans (hbel2.mono hsize)).trans (hb.mono (by omega))⟩
end Go.Proofs.Ybulkbwle
