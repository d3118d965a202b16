/-
  'decimal' by its contract: over ASCII digits that spell a number that fits an int it answers that number; it lays a block, and turns nothing that was there.
-/
import Derived.Test.YbulkbwleRows
import Derived.Test.YbulkbwlePlain
import Derived.WalkKit
import Derived.Laws.IdiomStrings
import Derived.Laws.BytesArg
namespace Go.Proofs.Ybulkbwle
open Go.RowKit

theorem ret_int {k : IntKind} {a b : Int} (h : a = b) : Ending.returned (.int k a) = .returned (.int k b) := by rw [h]

theorem row_cell (xs : List Int) (hd : Digs xs) (cap j : Nat) (hj : j < xs.length) : (bytesRow (strOfNums xs) cap)[j]? = some (.int .u8 (xs[j]?.getD 0)) := by
  have h1 := hd xs[j] (List.getElem_mem hj)
  unfold bytesRow strOfNums
  rw [Array.getElem?_append_left (by simpa using hj)]
  simp only [Array.getElem?_map, List.getElem?_toArray, List.getElem?_map, List.getElem?_eq_getElem hj, Option.map_some, Option.getD_some]
  congr 2
  have : xs[j].toNat < 256 := by omega
  rw [show (UInt8.ofNat xs[j].toNat).toNat = xs[j].toNat from by simp; omega]
  omega

set_option maxHeartbeats 400000 in
set_option maxRecDepth 100000 in
theorem decimal_any (xs : List Int) (s : ByteArray) (hs : Hid (s = strOfNums xs)) (hl : xs.length ≤ 1000) (hd : Digs xs) (hv : val xs ≤ 9223372036854775807) (w : World) :
    Calls Yba.prog 5 #[.string s] w fun e w' => e = .returned (.int .i64 (val xs)) ∧ Below w.heap.size w w' := by
  have hsz : s.size = xs.length := by rw [hs.out]; exact strOfNums_size xs
  have hconv := run_bytes_of_string (P := Yba.prog) w 9 24 5 s Yba.underlying9 Yba.underlying24 Yba.underlying5
  have HB : ∃ (cap : Nat) (C : Array Value) (W : World), (convert 9 24 (.string s)).run Yba.prog w = .ok (.slice (some ⟨w.heap.size, 0, none⟩) xs.length cap) W ∧ (∀ j, j < xs.length → W.cell? ⟨w.heap.size, j, none⟩ = some (.int .u8 (xs[j]?.getD 0))) ∧ Below w.heap.size w W := by
    refine ⟨_, bytesRow s (grownCap w s.size 0 5), _, hsz ▸ hconv, fun j hj => ?_, ?_⟩
    · refine (World.cell?_alloc_mark w.drew _ _ _ j).trans ?_
      rw [hs.out]
      exact row_cell xs hd _ j hj
    · exact ((Below.refl _ _).drew).alloc (Nat.le_refl _) _
  clear hconv hs hsz
  obtain ⟨cap, C, W, hconv, hcell, hbel⟩ := HB
  have HCell : Hid (∀ j, j < xs.length → W.cell? ⟨w.heap.size, j, none⟩ = some (.int .u8 (xs[j]?.getD 0))) := hcell
  clear hcell
  go_enter Yba.func5, Yba.ntmps5
  go_wp2
  go_loop [3, 9] (fun n i => ∃ k : Nat, k ≤ xs.length ∧ i = .int .i64 k ∧ n = .int .i64 (val (xs.take k))) (fun _ i => xs.length - (intOf i).toNat)
  case atStart => exact ⟨0, Nat.zero_le _, rfl, rfl⟩
  case round =>
    obtain ⟨k, hk, rfl, rfl⟩ := hrel
    by_cases hlt : k < xs.length
    · have hc := HCell.out k hlt
      have h0 := val_nonneg xs hd k
      have HS : Hid (val (xs.take (k + 1)) = val (xs.take k) * 10 + (xs[k]?.getD 0 - 48)) := val_take_succ xs k hlt
      have hx : 48 ≤ xs[k]?.getD 0 ∧ xs[k]?.getD 0 ≤ 57 := by
        rw [List.getElem?_eq_getElem hlt]; exact hd _ (List.getElem_mem hlt)
      have hm : val (xs.take k) * 10 + (xs[k]?.getD 0 - 48) ≤ 9223372036854775807 := by
        have := val_le xs hd (k + 1)
        rw [HS.out] at this
        omega
      obtain ⟨c, hc'⟩ : ∃ c, c = xs[k]?.getD 0 := ⟨_, rfl⟩
      rw [← hc'] at hc hx hm HS
      have HC : Hid (c = xs[k]?.getD 0) := hc'
      clear hc'
      obtain ⟨hx1, hx2⟩ := hx
      go_wp2
      go_round
      case rel => exact ⟨k + 1, by omega, by go_num, by rw [HS.out]⟩
      case measure => simp [intOf]; omega
    · go_wp2
      go_ret
      exact ⟨ret_int (by rw [List.take_of_length_le (by omega)]), hbel⟩

end Go.Proofs.Ybulkbwle
