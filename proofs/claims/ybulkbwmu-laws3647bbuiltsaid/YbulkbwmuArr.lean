/-
  A local [32]byte of the call's own, as a row of cells; what PutUint64 does to its last eight.
-/
import Derived.Test.YbulkbwmuModel
namespace Go.Proofs.Ybulkbwmu
open Go.RowKit

/-- The cells xs lie in block g from its head on; none is frozen. -/
def Arr (g : Nat) (xs : List Value) (w : World) : Prop := (∀ j v, xs[j]? = some v → w.cell? ⟨g, j, none⟩ = some v) ∧ ∀ j, w.frozen? ⟨g, j, none⟩ = false

theorem grown_setCell (w : World) (g o : Nat) (v : Value) : w.grownBy (w.setCell ⟨g, o, none⟩ v) (some g) :=
  ⟨rfl, rfl, rfl, by simp [World.setCell], fun k _ hk => Below.heap_setCell _ _ _ _ (fun e => hk (by simp [e]))⟩

theorem grown_trans {a b c : World} {row : Option Nat} (h : a.grownBy b row) (k : b.grownBy c row) : a.grownBy c row :=
  ⟨k.os.trans h.os, k.tape.trans h.tape, k.output.trans h.output, Nat.le_trans h.size k.size, fun i hi hr => (k.block i (Nat.lt_of_lt_of_le hi h.size) hr).trans (h.block i hi hr)⟩

theorem grown_setCells (g : Nat) : ∀ (vs : List Value) (o : Nat) (w : World), w.grownBy (w.setCells g o vs) (some g)
  | [], _, w => World.grownBy.refl w _
  | v :: vs, o, w => grown_trans (grown_setCell w g o v) (grown_setCells g vs (o + 1) (w.setCell ⟨g, o, none⟩ v))

theorem Arr.alloc {g : Nat} {xs : List Value} {w : World} (h : Arr g xs w) (hg : g < w.heap.size) (o : Obj) : Arr g xs (w.alloc o) :=
  ⟨fun j v hj => (World.cell?_alloc_past _ _ _ (by simpa using hg)).trans (h.1 j v hj), fun j => (World.frozen?_alloc_past _ _ _ (by simpa using hg)).trans (h.2 j)⟩

theorem Arr.set {g : Nat} {xs : List Value} {w : World} (h : Arr g xs w) (i : Nat) (hi : i < xs.length) (v : Value) : Arr g (xs.set i v) (w.setCell ⟨g, i, none⟩ v) := by
  refine ⟨fun j u hj => ?_, fun j => (World.frozen?_setCell _ _ _ _).trans (h.2 j)⟩
  by_cases hij : i = j
  · subst hij
    rw [List.getElem?_set_self hi] at hj
    cases hj
    exact World.cell?_setCell_same _ _ _ (h.1 i _ (List.getElem?_eq_getElem hi))
  · rw [List.getElem?_set_ne hij] at hj
    exact (World.cell?_setCell_other _ _ _ _ (by simp)).trans (h.1 j u hj)

theorem Arr.sets {g : Nat} : ∀ (vs : List Value) (o : Nat) (xs : List Value) (w : World), Arr g xs w → o + vs.length ≤ xs.length → Arr g (xs.take o ++ vs ++ xs.drop (o + vs.length)) (w.setCells g o vs)
  | [], o, xs, w, h, _ => by simpa [World.setCells] using h
  | v :: vs, o, xs, w, h, hl => by
    simp only [List.length_cons] at hl
    have h1 := Arr.sets vs (o + 1) (xs.set o v) _ (h.set o (by omega) v) (by simp; omega)
    have e : (xs.set o v).take (o + 1) ++ vs ++ (xs.set o v).drop (o + 1 + vs.length) = xs.take o ++ (v :: vs) ++ xs.drop (o + (v :: vs).length) := by
      rw [List.take_add_one, List.getElem?_set_self (by omega), List.take_set_of_le (Nat.le_refl o), List.drop_set_of_lt (by omega)]
      simp [Nat.add_assoc, Nat.add_comm 1]
    rw [e] at h1
    exact h1

theorem put64_arr (g : Nat) (v : Int) (hv0 : 0 ≤ v) (hv : v ≤ 18446744073709551615) (xs : List Value) (hx : xs.length = 32) (w : World) (hg : g < w.heap.size) (h : Arr g xs w) :
    Calls Yba.prog 8 #[.agg #[], .slice (some ⟨g, 24, none⟩) 8 8, .int .u64 v] w fun e w' => e = .returned (.tuple #[]) ∧ Arr g (xs.take 24 ++ put8 v) w' ∧ w.grownBy w' (some g) := by
  have hc : ∀ j (hj : j < 32), w.cell? ⟨g, j, none⟩ = some (xs[j]'(by omega)) := fun j hj => h.1 j _ (List.getElem?_eq_getElem (by omega))
  refine (put64_any g 24 8 8 v hv0 hv _ _ _ _ _ _ _ _ w (by omega) (hc 24 (by omega)) (hc 25 (by omega)) (hc 26 (by omega)) (hc 27 (by omega)) (hc 28 (by omega)) (hc 29 (by omega)) (hc 30 (by omega)) (hc 31 (by omega))
    (h.2 24) (h.2 25) (h.2 26) (h.2 27) (h.2 28) (h.2 29) (h.2 30) (h.2 31)).mono ?_
  rintro e w' ⟨rfl, rfl⟩
  refine ⟨rfl, ?_, grown_trans (World.grownBy_alloc w _ _) (grown_setCells _ _ _ _)⟩
  have h1 := Arr.sets (put8 v) 24 xs _ (h.alloc hg (.cells #[] 53)) (by simp [put8, hx])
  have e : xs.drop (24 + (put8 v).length) = [] := List.drop_eq_nil_of_le (by simp [put8, hx])
  rw [e, List.append_nil] at h1
  exact h1

end Go.Proofs.Ybulkbwmu
