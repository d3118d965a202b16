/-
  LawS3649BTake: the walk.
-/
import Derived.Test.YbulkbwnwOri
namespace Go.Proofs.Ybulkbwnw
open Go.RowKit Go.MuLone

theorem new5 (w : World) (v0 v1 v2 v3 v4 : Value) (t : TypeId) : ∀ j u, [v0, v1, v2, v3, v4][j]? = some u → (w.alloc (.cells #[v0, v1, v2, v3, v4] t)).cell? ((⟨w.heap.size, 0, none⟩ : Addr).add j) = some u := by
  intro j u hj
  rw [Addr.add_lit, Nat.zero_add]
  have hb := heap_alloc_new w (.cells #[v0, v1, v2, v3, v4] t)
  simp only [World.cell?, hb]
  simpa using hj
theorem new5_last (w : World) (v0 v1 v2 v3 v4 : Value) (t : TypeId) (q : Nat) : ((w.alloc (.cells #[v0, v1, v2, v3, v4] t)).drewN q).cell? ⟨w.heap.size, 4, none⟩ = some v4 := by
  have h := new5 w v0 v1 v2 v3 v4 t 4 v4 rfl
  rw [Addr.add_lit, Nat.zero_add] at h
  exact h
theorem ones5 (a c d : ByteArray) (b : Int) (e : Option Addr) : ∀ u ∈ [Value.string a, .int .u32 b, .string c, .string d, .pointer e], u.oneCell' = true := by
  intro u hu
  simp at hu
  rcases hu with rfl | rfl | rfl | rfl | rfl <;> rfl

set_option maxHeartbeats 2000000 in
set_option maxRecDepth 100000 in
theorem law_some (s : Nat → ByteArray) (z : Nat → Int) (x : Addr) (a1 : Option Addr) (n cap0 m cap1 : Nat) (mask : Int) (w : World) (hn : n ≤ 1024) (hm : m ≤ 9223372036854775807)
    (hds : Came (fun i => .string (s i)) w (some x) n) (hdz : Came (fun i => .int .u32 (z i)) w a1 m) :
    Calls Yba.prog 3 #[.slice (some x) n cap0, .slice a1 m cap1, .int .u64 mask] w fun e w' => e = .returned (.bool true) ∧ Below w.heap.size w w' := by
  obtain ⟨i0, hi, hz0, hz1, hz2⟩ := info_parts Yba.info39
  have q22 := ne22
  go_enter Yba.func3, Yba.ntmps3
  go_wp2_with (at_make; refine wpList_make_own _ rfl _ _ 33 rfl w.heap.size 39 i0 _ 5 Yba.underlying33 hi hz0 hz1 _ _ _ n rfl rfl (by omega) (by rw [hz2]; omega) (by unfold maxLen; omega) (by simp; omega) ?_)
  intro w1 hown hgrow
  have hb0 : Below w.heap.size w ((w.alloc (.cells #[.pointer none, .slice none 0 0, .slice none 0 0, .chan none, .nilIface] 32)).alloc (.cells #[.pointer none, .slice none 0 0, .slice none 0 0, .chan none, .nilIface] 32)) := ((Below.refl _ _).alloc (Nat.le_refl _) _).alloc (by simp) _
  have hb1 : Below w.heap.size w w1 := hb0.grown hgrow (by simp; omega) (fun _ h => by cases h)
  clear hgrow hb0
  go_wp2
  have hown1 : w1.ownsRow w.heap.size 39 5 (.slice (some ⟨w.heap.size + 1 + 1, 0, none⟩) 0 n) 0 [] := by simpa using hown
  have hgB : w.heap.size ≤ w.heap.size + 1 + 1 := by omega
  obtain ⟨g, hg⟩ : ∃ g, g = w.heap.size + 1 + 1 := ⟨_, rfl⟩
  rw [← hg] at hown1 hgB ⊢
  obtain ⟨b1, hb1e⟩ : ∃ b1, b1 = w.heap.size + 1 := ⟨_, rfl⟩
  rw [← hb1e]
  clear hg hb1e hown q22
  obtain ⟨b0, hb0e⟩ : ∃ b0, b0 = w.heap.size := ⟨_, rfl⟩
  rw [← hb0e]
  rw [← hb0e] at hown1 hb1 hgB
  have HB0 : Hid (b0 = w.heap.size) := hb0e
  clear hb0e
  go_loopw [9, 10] (fun v i wr => ∃ k : Nat, k ≤ n ∧ i = .int .i64 k ∧ v = .slice (some ⟨g, 0, none⟩) k n ∧ wr.ownsRow b0 39 5 (.slice (some ⟨g, 0, none⟩) k n) k (rows5 (rec5 s z m mask b0 b1) k) ∧ Below b0 w wr)
    (fun _ i _ => n - (intOf i).toNat)
  case atStart => exact ⟨0, Nat.zero_le _, rfl, rfl, hown1, hb1⟩
  case round =>
    obtain ⟨k, hk, rfl, rfl, hown, hbr⟩ := hrel
    have hbr' : Below w.heap.size w wr := HB0.out ▸ hbr
    by_cases hlt : k < n
    · rcases hds.below hbr' with h | ⟨b, off, hx, hbl, hcs⟩
      · omega
      cases hx
      have hc : wr.cell? ⟨b, off + k, none⟩ = some (.string (s k)) := hcs k hlt
      have hbg : b ≠ g := by
        have hb' : b < w.heap.size := by
          rcases hds with h | ⟨b', off', hx', hbl', _⟩
          · omega
          · cases hx'; exact hbl'
        have := HB0.out
        omega
      obtain ⟨sk, hsk⟩ : ∃ sk, sk = s k := ⟨_, rfl⟩
      rw [← hsk] at hc
      have HSK : Hid (sk = s k) := hsk
      clear hsk hcs
      have HP := pick_any mask k b0 b1
      obtain ⟨on, hon⟩ : ∃ on, on = onP mask b0 b1 k := ⟨_, rfl⟩
      rw [← hon] at HP
      have HON : Hid (on = onP mask b0 b1 k) := hon
      clear hon
      have k1 : (k : Int) < (n : Int) := by omega
      have k0 : (0 : Int) ≤ (k : Int) := by omega
      have hbg' : some b ≠ some g := by simpa using hbg
      have hB : b0 ≤ wr.heap.size := by have := hbr'.size; have := HB0.out; omega
      by_cases hm0 : m = 0
      · subst hm0
        go_wp2
        have hownA : (wr.alloc (.cells #[.string sk, .int .u32 0, .string sk, .string ⟨#[114]⟩, .pointer on] 39)).drew.ownsRow b0 39 5 (.slice (some ⟨g, 0, none⟩) k n) k (rows5 (rec5 s z 0 mask b0 b1) k) := hown.alloc _
        have hnewA : ∀ j u, [Value.string sk, .int .u32 0, .string sk, .string ⟨#[114]⟩, .pointer on][j]? = some u → (wr.alloc (.cells #[.string sk, .int .u32 0, .string sk, .string ⟨#[114]⟩, .pointer on] 39)).drew.cell? ((⟨wr.heap.size, 0, none⟩ : Addr).add j) = some u := new5 wr _ _ _ _ _ 39
        have hcA : (wr.alloc (.cells #[.string sk, .int .u32 0, .string sk, .string ⟨#[114]⟩, .pointer on] 39)).drew.cell? ⟨b, off + k, none⟩ = some (.string sk) := (World.cell?_alloc_past _ _ _ hbl).trans hc
        have hbA : Below b0 w (wr.alloc (.cells #[.string sk, .int .u32 0, .string sk, .string ⟨#[114]⟩, .pointer on] 39)).drew := (hbr.alloc hB _).drew
        go_region_held3 (fun w' => w'.cell? ⟨b, off + k, none⟩ = some (.string sk)) (first | assumption | exact hc | exact (World.cell?_alloc_past _ _ _ hbl).trans hc)
          (first | (go_at_call 4; refine (HP _ (by omega)).mono ?_; rintro e w' ⟨rfl, rfl⟩)
                 | (refine step_append_fits rfl _ _ 33 rfl b0 39 i0 5 Yba.underlying33 hi hz1 g k n _ rfl hownA ⟨wr.heap.size, 0, none⟩ 1 1 [.string sk, .int .u32 0, .string sk, .string ⟨#[114]⟩, .pointer on] rfl rfl hnewA (ones5 _ _ _ _ _) (by omega) ?_; intro w2 hown2 hg2; have hk2 := hg2.cell hcA hbg'))
        have hb2 : Below b0 w w2 := hbA.grown hg2 (by simp; omega) (fun j hj => by cases hj; exact hgB)
        have hown2' : w2.ownsRow b0 39 5 (.slice (some ⟨g, 0, none⟩) (k + 1) n) (k + 1) (rows5 (rec5 s z 0 mask b0 b1) (k + 1)) := by
          have e : rec5 s z 0 mask b0 b1 k = [.string sk, .int .u32 0, .string sk, .string ⟨#[114]⟩, .pointer on] := by
            rw [rec5, ← HSK.out, ← HON.out, show grp z 0 k = 0 from rfl]
          simp only [rows5, e]
          exact hown2
        clear hown2 hg2 hownA hnewA hcA hbA
        go_wp2
        go_roundw
        case rel => exact ⟨k + 1, by omega, by go_num, rfl, hown2', hb2⟩
        case measure => simp [intOf]; omega
      · rcases hdz.below hbr' with h | ⟨b', off', rfl, hbl', hcs'⟩
        · omega
        have hmk : k % m < m := Nat.mod_lt _ (by omega)
        have hcz : wr.cell? ⟨b', off' + k % m, none⟩ = some (.int .u32 (z (k % m))) := hcs' (k % m) hmk
        clear hcs'
        obtain ⟨gz, hgz⟩ : ∃ gz, gz = z (k % m) := ⟨_, rfl⟩
        rw [← hgz] at hcz
        have HG : Hid (grp z m k = gz) := by show _ = _; rw [grp, if_neg hm0, hgz]
        clear hgz
        have m1 : (0 : Int) < (m : Int) := by omega
        go_wp2
        have hownA : (wr.alloc (.cells #[.string sk, .int .u32 gz, .string sk, .string ⟨#[114]⟩, .pointer on] 39)).drew.ownsRow b0 39 5 (.slice (some ⟨g, 0, none⟩) k n) k (rows5 (rec5 s z m mask b0 b1) k) := hown.alloc _
        have hnewA : ∀ j u, [Value.string sk, .int .u32 gz, .string sk, .string ⟨#[114]⟩, .pointer on][j]? = some u → (wr.alloc (.cells #[.string sk, .int .u32 gz, .string sk, .string ⟨#[114]⟩, .pointer on] 39)).drew.cell? ((⟨wr.heap.size, 0, none⟩ : Addr).add j) = some u := new5 wr _ _ _ _ _ 39
        have hcA : (wr.alloc (.cells #[.string sk, .int .u32 gz, .string sk, .string ⟨#[114]⟩, .pointer on] 39)).drew.cell? ⟨b, off + k, none⟩ = some (.string sk) := (World.cell?_alloc_past _ _ _ hbl).trans hc
        have hbA : Below b0 w (wr.alloc (.cells #[.string sk, .int .u32 gz, .string sk, .string ⟨#[114]⟩, .pointer on] 39)).drew := (hbr.alloc hB _).drew
        go_region_held3 (fun w' => w'.cell? ⟨b, off + k, none⟩ = some (.string sk)) (first | assumption | exact hc | exact (World.cell?_alloc_past _ _ _ hbl).trans hc)
          (first | (go_at_call 4; refine (HP _ (by omega)).mono ?_; rintro e w' ⟨rfl, rfl⟩)
                 | (refine step_append_fits rfl _ _ 33 rfl b0 39 i0 5 Yba.underlying33 hi hz1 g k n _ rfl hownA ⟨wr.heap.size, 0, none⟩ 1 1 [.string sk, .int .u32 gz, .string sk, .string ⟨#[114]⟩, .pointer on] rfl rfl hnewA (ones5 _ _ _ _ _) (by omega) ?_; intro w2 hown2 hg2; have hk2 := hg2.cell hcA hbg'))
        have hb2 : Below b0 w w2 := hbA.grown hg2 (by simp; omega) (fun j hj => by cases hj; exact hgB)
        have hown2' : w2.ownsRow b0 39 5 (.slice (some ⟨g, 0, none⟩) (k + 1) n) (k + 1) (rows5 (rec5 s z m mask b0 b1) (k + 1)) := by
          have e : rec5 s z m mask b0 b1 k = [.string sk, .int .u32 gz, .string sk, .string ⟨#[114]⟩, .pointer on] := by
            rw [rec5, ← HSK.out, ← HON.out, HG.out]
          simp only [rows5, e]
          exact hown2
        clear hown2 hg2 hownA hnewA hcA hbA
        go_wp2
        go_roundw
        case rel => exact ⟨k + 1, by omega, by go_num, rfl, hown2', hb2⟩
        case measure => simp [intOf]; omega
    · obtain rfl : k = n := by omega
      clear hlt
      have hori : Ori wr.heap.size 0 (.slice (some ⟨g, 0, none⟩) k k) (wr.alloc (.cells #[.int .i32 0, .int .u32 0, .slice (some ⟨g, 0, none⟩) k k, .chan none] 48)) := heap_alloc_new _ _
      have hgW : g < wr.heap.size := (hown.lt g rfl).2
      have HT := take_ori _ _ _ hori
      clear hori
      have p33 := eq33
      have p22 := eq22
      have p50 := ne50
      have q33 := ne33
      have q28 := ne28
      go_wp2_with (go_at_call 5; refine HT.mono ?_; rintro e w3 ⟨rfl, hO3, hg3⟩)
      have hB0 : b0 ≤ wr.heap.size := by have := hbr.size; have := HB0.out; omega
      have hown3 := (hown.alloc (.cells #[.int .i32 0, .int .u32 0, .slice (some ⟨g, 0, none⟩) k k, .chan none] 48)).kept hg3 (.inr (by simp [Value.ownBlock]; omega))
      have hb3 : Below b0 w w3 := (hbr.alloc hB0 _).grown hg3 (by simp; omega) (fun j hj => by cases hj; exact hB0)
      have hb3s : b0 ≤ w3.heap.size := by have := hg3.size; simp at this; omega
      obtain ⟨ob, hob⟩ : ∃ ob, ob = wr.heap.size := ⟨_, rfl⟩
      have hobB : ∀ j, some ob = some j → b0 ≤ j := fun j hj => by cases hj; omega
      rw [← hob] at hO3 ⊢
      clear hg3 hown hbr HT hob p33 p22
      by_cases hk0 : k = 0
      · subst hk0
        have hd : decide ((0 : Int) < ((0 : Nat) : Int)) = false := by decide
        go_quiet (fail)
        have hO3' : Ori ob 0 (.slice none 0 0) (w3.drewN nq) := hO3
        have hb3' : Below b0 w (w3.drewN nq) := ⟨hb3.os, hb3.tape, hb3.output, hb3.size, hb3.block⟩
        have hb3s' : b0 ≤ (w3.drewN nq).heap.size := hb3s
        have hown3' : (w3.drewN nq).ownsRow b0 39 5 (.slice (some ⟨g, 0, none⟩) 0 0) 0 (rows5 (rec5 s z m mask b0 b1) 0) := hown3
        clear hO3 hb3 hb3s hown3
        obtain ⟨w3q, hq⟩ : ∃ w3q, w3q = w3.drewN nq := ⟨_, rfl⟩
        rw [← hq] at hO3' hb3' hb3s' hown3' ⊢
        clear hq
        have hO3 := hO3'
        have hb3 := hb3'
        have hb3s := hb3s'
        have hown3 := hown3'
        clear hO3' hb3' hb3s' hown3'
        go_wp2
        refine wp_loop_rounds 1 ?_
        rw [rounds_succ]
        obtain ⟨o0, o1, o2, o3⟩ := hO3.cells
        go_wp2_with fail
        refine (trylock_ori ob _ _ hO3).mono ?_
        rintro e w4 ⟨rfl, hO4, hg4⟩
        go_wp2_with fail
        refine (unlock_ori ob _ _ hO4).mono ?_
        rintro e w5 ⟨rfl, hO5, hg5⟩
        go_wp2_with fail
        refine (take_ori ob _ _ hO5).mono ?_
        rintro e w6 ⟨rfl, hO6, hg6⟩
        go_wp2
        go_ret
        exact ⟨rfl, HB0.out ▸ (((hb3.grown hg4 hb3s hobB).grown hg5 (Nat.le_trans hb3s hg4.size) hobB).grown hg6 (Nat.le_trans (Nat.le_trans hb3s hg4.size) hg5.size) hobB)⟩
      · have hd : decide ((0 : Int) < (k : Int)) = true := by simp; omega
        have hk1 : (0 : Int) < (k : Int) := by omega
        have hk2 : 0 < k := by omega
        go_quiet (fail)
        have hO3' : Ori ob 0 (.slice none 0 0) (w3.drewN nq) := hO3
        have hb3' : Below b0 w (w3.drewN nq) := ⟨hb3.os, hb3.tape, hb3.output, hb3.size, hb3.block⟩
        have hb3s' : b0 ≤ (w3.drewN nq).heap.size := hb3s
        have hown3' : (w3.drewN nq).ownsRow b0 39 5 (.slice (some ⟨g, 0, none⟩) k k) k (rows5 (rec5 s z m mask b0 b1) k) := hown3
        clear hO3 hb3 hb3s hown3
        obtain ⟨w3q, hq⟩ : ∃ w3q, w3q = w3.drewN nq := ⟨_, rfl⟩
        rw [← hq] at hO3' hb3' hb3s' hown3' ⊢
        clear hq
        have hO3 := hO3'
        have hb3 := hb3'
        have hb3s := hb3s'
        have hown3 := hown3'
        clear hO3' hb3' hb3s' hown3'
        go_wp2
        go_loopw [14] (fun i wr2 => ∃ j : Nat, j ≤ k ∧ i = .int .i64 j ∧ w3q.grownBy wr2 none) (fun i _ => k - (intOf i).toNat)
        case atStart => exact ⟨0, Nat.zero_le _, rfl, World.grownBy.refl _ _⟩
        case round =>
          obtain ⟨j, hj, rfl, hgr⟩ := hrel
          obtain ⟨wr2, rfl⟩ : ∃ y, y = wr := ⟨_, rfl⟩
          have hbr2 : Below b0 w wr2 := hb3.grown hgr hb3s (fun _ h => by cases h)
          have hbr2' : Below w.heap.size w wr2 := HB0.out ▸ hbr2
          by_cases hlt2 : j < k
          · have hown4 := hown3.kept hgr (.inr (by simp [Value.ownBlock]))
            have hcell : ∀ t, t < 5 → wr2.cell? ⟨g, j * 5 + t, none⟩ = (rec5 s z m mask b0 b1 j)[t]? := fun t ht => by
              rw [hown4.cellAt (j * 5 + t) (by omega), rows5_get _ (fun i => by simp [rec5]) k j t hlt2 ht]
            have c0 := hcell 0 (by omega)
            have c1 := hcell 1 (by omega)
            have c2 := hcell 2 (by omega)
            have c3 := hcell 3 (by omega)
            have c4 := hcell 4 (by omega)
            simp [rec5] at c0 c1 c2 c3 c4
            rcases hds.below hbr2' with h | ⟨b, off, hx, hbl, hcs⟩
            · omega
            cases hx
            have hc : wr2.cell? ⟨b, off + j, none⟩ = some (.string (s j)) := hcs j hlt2
            clear hcs hcell
            obtain ⟨sj, hsj⟩ : ∃ sj, sj = s j := ⟨_, rfl⟩
            rw [← hsj] at hc c0 c2
            clear hsj
            have HP := pick_any mask j b0 b1
            obtain ⟨on, hon⟩ : ∃ on, on = onP mask b0 b1 j := ⟨_, rfl⟩
            rw [← hon] at HP c4
            clear hon
            have k1 : (j : Int) < (k : Int) := by omega
            have k0 : (0 : Int) ≤ (j : Int) := by omega
            have q25 := ne25
            by_cases hm0 : m = 0
            · subst hm0
              have c1' : wr2.cell? ⟨g, j * 5 + 1, none⟩ = some (.int .u32 0) := c1
              clear c1
              go_wp2
              go_quiet (fail)
              go_wp2
              have hq4 := new5_last wr2 (.string sj) (.int .u32 0) (.string sj) (.string ⟨#[114]⟩) (.pointer on) 39 nq
              have hgq : w3q.grownBy ((wr2.alloc (.cells #[.string sj, .int .u32 0, .string sj, .string ⟨#[114]⟩, .pointer on] 39)).drewN nq) none := grown_drewN (grown_alloc hgr _) nq
              obtain ⟨w4, hw4⟩ : ∃ w4, w4 = (wr2.alloc (.cells #[.string sj, .int .u32 0, .string sj, .string ⟨#[114]⟩, .pointer on] 39)).drewN nq := ⟨_, rfl⟩
              rw [← hw4] at hq4 hgq ⊢
              clear hw4 c0 c1' c2 c3 c4 hc
              go_region_held3 (fun w' => w'.cell? ⟨wr2.heap.size, 4, none⟩ = some (.pointer on)) (first | assumption | exact hq4)
                (first | (go_at_call 4; refine (HP _ (by omega)).mono ?_; rintro e w' ⟨rfl, rfl⟩))
              go_wp2
              go_roundw
              case rel => exact ⟨j + 1, by omega, by go_num, ⟨hgq.os, hgq.tape, hgq.output, hgq.size, hgq.block⟩⟩
              case measure => simp [intOf]; omega
            · rcases hdz.below hbr2' with h | ⟨b', off', rfl, hbl', hcs'⟩
              · omega
              have hmk : j % m < m := Nat.mod_lt _ (by omega)
              have hcz : wr2.cell? ⟨b', off' + j % m, none⟩ = some (.int .u32 (z (j % m))) := hcs' (j % m) hmk
              clear hcs'
              obtain ⟨gz, hgz⟩ : ∃ gz, gz = z (j % m) := ⟨_, rfl⟩
              rw [← hgz] at hcz
              have c1' : wr2.cell? ⟨g, j * 5 + 1, none⟩ = some (.int .u32 gz) := by rw [c1, grp, if_neg hm0, hgz]
              clear c1 hgz
              have m1 : (0 : Int) < (m : Int) := by omega
              go_wp2
              go_quiet (fail)
              go_wp2
              have hq4 := new5_last wr2 (.string sj) (.int .u32 gz) (.string sj) (.string ⟨#[114]⟩) (.pointer on) 39 nq
              have hgq : w3q.grownBy ((wr2.alloc (.cells #[.string sj, .int .u32 gz, .string sj, .string ⟨#[114]⟩, .pointer on] 39)).drewN nq) none := grown_drewN (grown_alloc hgr _) nq
              obtain ⟨w4, hw4⟩ : ∃ w4, w4 = (wr2.alloc (.cells #[.string sj, .int .u32 gz, .string sj, .string ⟨#[114]⟩, .pointer on] 39)).drewN nq := ⟨_, rfl⟩
              rw [← hw4] at hq4 hgq ⊢
              clear hw4 c0 c1' c2 c3 c4 hc
              go_region_held3 (fun w' => w'.cell? ⟨wr2.heap.size, 4, none⟩ = some (.pointer on)) (first | assumption | exact hq4)
                (first | (go_at_call 4; refine (HP _ (by omega)).mono ?_; rintro e w' ⟨rfl, rfl⟩))
              go_wp2
              go_roundw
              case rel => exact ⟨j + 1, by omega, by go_num, ⟨hgq.os, hgq.tape, hgq.output, hgq.size, hgq.block⟩⟩
              case measure => simp [intOf]; omega
          · obtain rfl : j = k := by omega
            have hobS : ob < w3q.heap.size := (Array.getElem?_eq_some_iff.1 hO3).1
            have hO3 : Ori ob 0 (.slice none 0 0) wr2 := (hgr.block ob hobS (by simp)).trans hO3
            have hb3 := hbr2
            have hb3s : b0 ≤ wr2.heap.size := Nat.le_trans hb3s hgr.size
            obtain ⟨o0, o1, o2, o3⟩ := hO3.cells
            go_wp2_with fail
            refine (trylock_ori ob _ _ hO3).mono ?_
            rintro e w4 ⟨rfl, hO4, hg4⟩
            go_wp2_with fail
            refine (unlock_ori ob _ _ hO4).mono ?_
            rintro e w5 ⟨rfl, hO5, hg5⟩
            go_wp2_with fail
            refine (take_ori ob _ _ hO5).mono ?_
            rintro e w6 ⟨rfl, hO6, hg6⟩
            go_wp2
            go_ret
            exact ⟨rfl, HB0.out ▸ (((hb3.grown hg4 hb3s hobB).grown hg5 (Nat.le_trans hb3s hg4.size) hobB).grown hg6 (Nat.le_trans (Nat.le_trans hb3s hg4.size) hg5.size) hobB)⟩

end Go.Proofs.Ybulkbwnw
