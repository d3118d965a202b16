/-
  The origin's block: the lock's two cells, the slice, the channel; take, TryLock, Unlock over it.
-/
import Derived.Test.YbulkbwnwEq
namespace Go.Proofs.Ybulkbwnw
open Go.RowKit Go.MuLone

def Ori (ob : Nat) (st : Int) (v : Value) (w : World) : Prop := w.heap[ob]? = some (.cells #[.int .i32 st, .int .u32 0, v, .chan none] 48 (0, 0))

theorem Ori.cells {ob : Nat} {st : Int} {v : Value} {w : World} (h : Ori ob st v w) :
    w.cell? ⟨ob, 0, none⟩ = some (.int .i32 st) ∧ w.cell? ⟨ob, 1, none⟩ = some (.int .u32 0) ∧ w.cell? ⟨ob, 2, none⟩ = some v ∧ w.cell? ⟨ob, 3, none⟩ = some (.chan none) := by
  unfold Ori at h
  simp [World.cell?, h]
theorem Ori.free {ob : Nat} {st : Int} {v : Value} {w : World} (h : Ori ob st v w) (j : Nat) : w.frozen? ⟨ob, j, none⟩ = false := by
  unfold Ori at h
  simp [World.frozen?, h]
theorem Ori.setSt {ob : Nat} {st st' : Int} {v : Value} {w : World} (h : Ori ob st v w) : Ori ob st' v (w.setCell ⟨ob, 0, none⟩ (.int .i32 st')) :=
  (heap_setCell_same w ob 0 _ 48 (.int .i32 st') h).trans rfl
theorem Ori.setV {ob : Nat} {st : Int} {v v' : Value} {w : World} (h : Ori ob st v w) : Ori ob st v' (w.setCell ⟨ob, 2, none⟩ v') :=
  (heap_setCell_same w ob 2 _ 48 v' h).trans rfl

theorem grown_setCell (w : World) (g o : Nat) (v : Value) : w.grownBy (w.setCell ⟨g, o, none⟩ v) (some g) :=
  ⟨rfl, rfl, rfl, by simp [World.setCell], fun k _ hk => Below.heap_setCell _ _ _ _ (fun e => hk (by simp [e]))⟩
theorem grown_trans {a b c : World} {row : Option Nat} (h : a.grownBy b row) (k : b.grownBy c row) : a.grownBy c row :=
  ⟨k.os.trans h.os, k.tape.trans h.tape, k.output.trans h.output, Nat.le_trans h.size k.size, fun i hi hr => (k.block i (Nat.lt_of_lt_of_le hi h.size) hr).trans (h.block i hi hr)⟩
theorem grown_none {a b : World} {row : Option Nat} (h : a.grownBy b none) : a.grownBy b row := ⟨h.os, h.tape, h.output, h.size, fun k hk _ => h.block k hk (by simp)⟩
theorem grown_drewN {a b : World} {row : Option Nat} (h : a.grownBy b row) (n : Nat) : a.grownBy (b.drewN n) row := ⟨h.os, h.tape, h.output, h.size, h.block⟩
theorem grown_alloc {a b : World} (h : a.grownBy b none) (o : Obj) : a.grownBy (b.alloc o) none := grown_trans h (World.grownBy_alloc _ _ _)

theorem take_ori (ob : Nat) (v : Value) (w : World) (h : Ori ob 0 v w) :
    Calls Yba.prog 5 #[.pointer (some ⟨ob, 0, none⟩)] w fun e w' => e = .returned v ∧ Ori ob 0 (.slice none 0 0) w' ∧ w.grownBy w' (some ob) := by
  obtain ⟨h0, _, h2, _⟩ := h.cells
  refine (take_any ob v w h0 h2 (h.free 0) (h.free 2)).mono ?_
  rintro e w' ⟨rfl, rfl⟩
  exact ⟨rfl, ((h.setSt (st' := 1)).setV (v' := .slice none 0 0)).setSt (st' := 0), grown_trans (grown_trans (grown_setCell _ _ _ _) (grown_setCell _ _ _ _)) (grown_setCell _ _ _ _)⟩

theorem trylock_ori (ob : Nat) (v : Value) (w : World) (h : Ori ob 0 v w) :
    Calls Yba.prog 6 #[.pointer (some ⟨ob, 0, none⟩)] w fun e w' => e = .returned (.bool true) ∧ Ori ob 1 v w' ∧ w.grownBy w' (some ob) := by
  refine (trylock_free ob w h.cells.1 (h.free 0)).mono ?_
  rintro e w' ⟨rfl, rfl⟩
  exact ⟨rfl, h.setSt, grown_setCell _ _ _ _⟩

theorem unlock_ori (ob : Nat) (v : Value) (w : World) (h : Ori ob 1 v w) :
    Calls Yba.prog 7 #[.pointer (some ⟨ob, 0, none⟩)] w fun e w' => e = .returned (.tuple #[]) ∧ Ori ob 0 v w' ∧ w.grownBy w' (some ob) := by
  refine (unlock_held Yba.muLib ⟨ob, 0, none⟩ w h.cells.1 (h.free 0)).mono ?_
  rintro e w' ⟨rfl, rfl⟩
  exact ⟨rfl, h.setSt, grown_setCell _ _ _ _⟩

end Go.Proofs.Ybulkbwnw
