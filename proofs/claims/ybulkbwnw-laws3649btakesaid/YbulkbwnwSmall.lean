/-
  origin.take, sync.Mutex.TryLock, the law's own pick: by their contracts.
-/
import Derived.Test.YbulkbwnwLocks
import Derived.WalkKit
import Derived.Defers
namespace Go.Proofs.Ybulkbwnw
open Go.RowKit Go.MuLone

set_option maxHeartbeats 800000 in
set_option maxRecDepth 100000 in
theorem take_any (ob : Nat) (v : Value) (w : World) (h0 : w.cell? ⟨ob, 0, none⟩ = some (.int .i32 0)) (h2 : w.cell? ⟨ob, 2, none⟩ = some v) (f0 : w.frozen? ⟨ob, 0, none⟩ = false) (f2 : w.frozen? ⟨ob, 2, none⟩ = false) :
    Calls Yba.prog 5 #[.pointer (some ⟨ob, 0, none⟩)] w fun e w' => e = .returned v ∧ w' = ((w.setCell ⟨ob, 0, none⟩ (.int .i32 1)).setCell ⟨ob, 2, none⟩ (.slice none 0 0)).setCell ⟨ob, 0, none⟩ (.int .i32 0) := by
  go_enter_defers Yba.func5, Yba.ntmps5
  go_wp2_with (go_at_call 8; refine (lock_free Yba.muLib ⟨ob, 0, none⟩ _ h0 f0).mono ?_; rintro e w' ⟨rfl, rfl⟩)
  refine leaves_cons (f := 7) (args := #[.pointer (some ⟨ob, 0, none⟩)]) (by simp) (by simp [go_sem]) ?_
  refine (unlock_deferred Yba.muLib ⟨ob, 0, none⟩ .returning _ ?_ ?_).mono ?_
  · exact (World.cell?_setCell_other _ ⟨ob, 2, none⟩ ⟨ob, 0, none⟩ _ (by simp)).trans (World.cell?_setCell_same w ⟨ob, 0, none⟩ (.int .i32 1) h0)
  · simp [f0]
  rintro e u' w'' ⟨rfl, rfl, rfl⟩
  exact ⟨_, results_tmp rfl _ _ _, rfl, rfl⟩

/-- The road that the conversion takes at this program's two types: where the address is seen; how many cells lie there; the type's room. -/
theorem conv_road (a : Addr) (w : World) :
    (convert 55 59 (.pointer (some a))).run Yba.prog w = Sem.run Yba.prog (Conv.seenAt a >>= fun s => cellsIn s.block >>= fun c => sizeOf 44 >>= fun z =>
      if (decide (z = 0) || (c.any fun n => decide (n ≤ s.off) && s.spot.isNone)) = true then newObj (.view s 44) >>= fun b => pure (.pointer (some ⟨b, 0, none⟩)) else pure (.pointer (some s))) w := by
  kernel_rfl

/-- A pointer to the mutex, as the run-time's own untyped pointer: the same address, where a cell stands there. -/
theorem conv_seen {a : Addr} {v : Value} {w : World} (hc : w.cell? a = some v) :
    (convert 55 59 (.pointer (some a))).run Yba.prog w = .ok (.pointer (some a)) w := by
  obtain ⟨e, n, hsh, hlt, hsp⟩ := World.shape?_of_cell? hc
  have hge : ¬ (n ≤ a.off) := by omega
  have hs := Yba.sizeOf44
  rw [conv_road]
  simp [Conv.seenAt, viewAt, cellsIn, hs, hsh, hge, Result.andThen]

set_option maxHeartbeats 800000 in
set_option maxRecDepth 100000 in
theorem trylock_free (ob : Nat) (w : World) (h0 : w.cell? ⟨ob, 0, none⟩ = some (.int .i32 0)) (f0 : w.frozen? ⟨ob, 0, none⟩ = false) :
    Calls Yba.prog 6 #[.pointer (some ⟨ob, 0, none⟩)] w fun e w' => e = .returned (.bool true) ∧ w' = w.setCell ⟨ob, 0, none⟩ (.int .i32 1) := by
  have hd := disable Yba.muLib
  have he := enable Yba.muLib
  have ha := acquire Yba.muLib
  have hcas := run_call_cas_hit (P := Yba.prog) Yba.func14 (by kernel_rfl) (by kernel_rfl) (by kernel_rfl) .i32 (by kernel_rfl) (y := 1) h0 f0
  have h0' : (w.setCell ⟨ob, 0, none⟩ (.int .i32 1)).cell? ⟨ob, 0, none⟩ = some (.int .i32 1) := by simp [go_sem, h0]
  have hcv := conv_seen h0'
  go_enter Yba.func6, Yba.ntmps6
  go_wp2
  go_ret
  exact ⟨rfl, rfl⟩

/-- Which of the two batches the mask picks for i. -/
def sel (mask : Int) (i : Nat) : Int := bits BinOp.and IntKind.u64 (mask / 2 ^ (i % 32 * 2)) 3
def onP (mask : Int) (b0 b1 i : Nat) : Option Addr := if sel mask i = 0 then none else if sel mask i = 1 then some ⟨b0, 0, none⟩ else some ⟨b1, 0, none⟩

set_option maxHeartbeats 800000 in
set_option maxRecDepth 100000 in
theorem pick_any (mask : Int) (i b0 b1 : Nat) (w : World) (hi : i ≤ 1024) :
    Calls Yba.prog 4 #[.int .u64 mask, .int .i64 i, .pointer (some ⟨b0, 0, none⟩), .pointer (some ⟨b1, 0, none⟩)] w fun e w' => e = .returned (.pointer (onP mask b0 b1 i)) ∧ w' = w := by
  by_cases e0 : sel mask i = 0
  · rw [onP, if_pos e0]
    have t0 : (bits BinOp.and IntKind.u64 (mask / 2 ^ (i % 32 * 2)) 3 == 0) = true := by simpa [sel] using e0
    go_enter Yba.func4, Yba.ntmps4
    go_wp2
    go_ret
    exact ⟨rfl, rfl⟩
  · have t0 : (bits BinOp.and IntKind.u64 (mask / 2 ^ (i % 32 * 2)) 3 == 0) = false := by simpa [sel] using e0
    by_cases e1 : sel mask i = 1
    · rw [onP, if_neg e0, if_pos e1]
      have t1 : (bits BinOp.and IntKind.u64 (mask / 2 ^ (i % 32 * 2)) 3 == 1) = true := by simpa [sel] using e1
      go_enter Yba.func4, Yba.ntmps4
      go_wp2
      go_ret
      exact ⟨rfl, rfl⟩
    · rw [onP, if_neg e0, if_neg e1]
      have t1 : (bits BinOp.and IntKind.u64 (mask / 2 ^ (i % 32 * 2)) 3 == 1) = false := by simpa [sel] using e1
      go_enter Yba.func4, Yba.ntmps4
      go_wp2
      go_ret
      exact ⟨rfl, rfl⟩

/-- append WITHIN THE CAPACITY onto a row of the call's own, as one step of a region that draws. -/
theorem step_append_fits {P : Program} {ops : Array Oper} {o : Oper} {a : Act} {w : World} {K : Act → World → Prop} {Q : Exit → Act → World → Prop} {E : Prop}
    (hg : o.guard = none) (s x : Operand) (t : TypeId) (hop : o.op = Op.call { callee := Callee.builtin Builtin.append, args := #[s, x], argTypes := #[t, t] })
    (base : Nat) (e : TypeId) (i : TypeInfo) (size : Nat) (h1 : P.underlying t = some (.slice e)) (h2 : P.info? e = some i) (h4 : i.size = size)
    (g k cap : Nat) (xs : List Value) (hs : a.eval s = .slice (some ⟨g, 0, none⟩) k cap) (hown : w.ownsRow base e size (.slice (some ⟨g, 0, none⟩) k cap) k xs) (ad : Addr) (m c : Nat) (news : List Value) (hx : a.eval x = .slice (some ad) m c) (hn : news.length = m * size)
    (hc : ∀ j u, news[j]? = some u → w.cell? (ad.add j) = some u) (h1c : ∀ u ∈ news, u.oneCell' = true) (b1 : k + m ≤ cap)
    (hK : ∀ w', w'.ownsRow base e size (.slice (some ⟨g, 0, none⟩) (k + m) cap) (k + m) (xs ++ news) → w.grownBy w' (some g) → K (a.put o.dst (.slice (some ⟨g, 0, none⟩) (k + m) cap)) w') :
    if Region.wanted o (yielded ops a.tmps) = true then Oper.wp P o a w K Q else E := by
  have hw : Region.wanted o (yielded ops a.tmps) = true := by simp [Region.wanted, hg]
  rw [if_pos hw]
  obtain ⟨w', hrun, r1, r2⟩ := run_append_fits (P := P) w base t o.type e i size h1 h2 h4 g k cap xs hown ad m c news hn hc h1c b1
  unfold Oper.wp
  simp [execOp, hop, resolve, invoke, builtin, hs, hx, hrun, Result.andThen]
  exact hK w' r1 r2

end Go.Proofs.Ybulkbwnw
