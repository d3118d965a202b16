/-
  LawS3649BTake at nil sessions, and at more than 1024 of them.
-/
import Derived.Test.YbulkbwnwOri
namespace Go.Proofs.Ybulkbwnw
open Go.RowKit Go.MuLone

set_option maxHeartbeats 2000000 in
set_option maxRecDepth 100000 in
theorem law_nil (a1 : Option Addr) (m cap1 : Nat) (mask : Int) (w : World) :
    Calls Yba.prog 3 #[.slice none 0 0, .slice a1 m cap1, .int .u64 mask] w fun e w' => e = .returned (.bool true) ∧ Below w.heap.size w w' := by
  have q22 := ne22
  have p22 := eq22
  have p33 := eq33
  have q33 := ne33
  have q28 := ne28
  have hd : decide ((0 : Int) < ((0 : Nat) : Int)) = false := by decide
  go_enter Yba.func3, Yba.ntmps3
  go_wp2
  refine wp_loop_rounds 1 ?_
  rw [rounds_succ]
  go_wp2_with fail
  have hs2 : ((w.alloc (.cells #[.pointer none, .slice none 0 0, .slice none 0 0, .chan none, .nilIface] 32)).alloc (.cells #[.pointer none, .slice none 0 0, .slice none 0 0, .chan none, .nilIface] 32)).heap.size = w.heap.size + 1 + 1 := by simp
  have hori : Ori (w.heap.size + 1 + 1) 0 (.slice none 0 0) (((w.alloc (.cells #[.pointer none, .slice none 0 0, .slice none 0 0, .chan none, .nilIface] 32)).alloc (.cells #[.pointer none, .slice none 0 0, .slice none 0 0, .chan none, .nilIface] 32)).alloc (.cells #[.int .i32 0, .int .u32 0, .slice none 0 0, .chan none] 48)) := by
    have h := heap_alloc_new ((w.alloc (.cells #[.pointer none, .slice none 0 0, .slice none 0 0, .chan none, .nilIface] 32)).alloc (.cells #[.pointer none, .slice none 0 0, .slice none 0 0, .chan none, .nilIface] 32)) (.cells #[.int .i32 0, .int .u32 0, .slice none 0 0, .chan none] 48)
    rw [hs2] at h
    exact h
  have hb0 : Below w.heap.size w (((w.alloc (.cells #[.pointer none, .slice none 0 0, .slice none 0 0, .chan none, .nilIface] 32)).alloc (.cells #[.pointer none, .slice none 0 0, .slice none 0 0, .chan none, .nilIface] 32)).alloc (.cells #[.int .i32 0, .int .u32 0, .slice none 0 0, .chan none] 48)) := (((Below.refl _ _).alloc (Nat.le_refl _) _).alloc (by simp) _).alloc (by simp; omega) _
  obtain ⟨ob, hob⟩ : ∃ ob, ob = w.heap.size + 1 + 1 := ⟨_, rfl⟩
  have hobB : ∀ j, some ob = some j → w.heap.size ≤ j := fun j hj => by cases hj; omega
  rw [← hob] at hori ⊢
  clear hob hs2
  refine (take_ori ob _ _ hori).mono ?_
  rintro e w3 ⟨rfl, hO3', hg3⟩
  have hb3' : Below w.heap.size w w3 := hb0.grown hg3 hb0.size hobB
  clear hb0 hori hg3
  go_wp2
  go_quiet (fail)
  have hO3 : Ori ob 0 (.slice none 0 0) (w3.drewN nq) := hO3'
  have hb3 : Below w.heap.size w (w3.drewN nq) := ⟨hb3'.os, hb3'.tape, hb3'.output, hb3'.size, hb3'.block⟩
  obtain ⟨w3q, hq⟩ : ∃ w3q, w3q = w3.drewN nq := ⟨_, rfl⟩
  rw [← hq] at hO3 hb3 ⊢
  clear hq hO3' hb3' w3
  go_wp2
  refine wp_loop_rounds 1 ?_
  rw [rounds_succ]
  obtain ⟨o0, o1, o2, o3⟩ := hO3.cells
  go_wp2_with fail
  refine (trylock_ori ob _ _ hO3).mono ?_
  rintro e w4 ⟨rfl, hO4, hg4⟩
  go_wp2_with fail
  refine (unlock_ori ob _ _ hO4).mono ?_
  rintro e w5 ⟨rfl, hO5, hg5⟩
  go_wp2_with fail
  refine (take_ori ob _ _ hO5).mono ?_
  rintro e w6 ⟨rfl, hO6, hg6⟩
  go_wp2
  go_ret
  exact ⟨rfl, ((hb3.grown hg4 hb3.size hobB).grown hg5 (Nat.le_trans hb3.size hg4.size) hobB).grown hg6 (Nat.le_trans (Nat.le_trans hb3.size hg4.size) hg5.size) hobB⟩

set_option maxHeartbeats 400000 in
set_option maxRecDepth 100000 in
theorem law_long (a0 a1 : Option Addr) (n cap0 m cap1 : Nat) (mask : Int) (w : World) (hn : 1024 < n) :
    Calls Yba.prog 3 #[.slice a0 n cap0, .slice a1 m cap1, .int .u64 mask] w fun e w' => e = .returned (.bool true) ∧ Below w.heap.size w w' := by
  go_enter Yba.func3, Yba.ntmps3
  go_wp2
  go_ret
  exact ⟨rfl, Below.refl _ _⟩

end Go.Proofs.Ybulkbwnw
