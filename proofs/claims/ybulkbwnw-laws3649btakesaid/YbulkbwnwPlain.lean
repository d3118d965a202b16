/-
  The recalls as rows of five cells; what came in.
-/
import Derived.Test.YbulkbwnwSmall
import Derived.Deep.QuietTactic
import Derived.BigQuiet
import Derived.Deep.RegionHeld3
import Derived.Deep.Cut
namespace Go.Proofs.Ybulkbwnw
open Go.RowKit

def rows5 (F : Nat → List Value) : Nat → List Value
  | 0 => []
  | k + 1 => rows5 F k ++ F k

theorem rows5_length (F : Nat → List Value) (hF : ∀ i, (F i).length = 5) (k : Nat) : (rows5 F k).length = k * 5 := by
  induction k with
  | zero => rfl
  | succ k ih => simp only [rows5, List.length_append, ih, hF]; omega

theorem rows5_get (F : Nat → List Value) (hF : ∀ i, (F i).length = 5) (n k j : Nat) (hk : k < n) (hj : j < 5) : (rows5 F n)[k * 5 + j]? = (F k)[j]? := by
  induction n with
  | zero => omega
  | succ n ih =>
    have hl := rows5_length F hF n
    simp only [rows5]
    rcases (show k < n ∨ k = n by omega) with h | rfl
    · rw [List.getElem?_append_left (by rw [hl]; omega)]
      exact ih h
    · rw [List.getElem?_append_right (by rw [hl]; omega), hl]
      congr 1
      omega

/-- The rating group of recall i. -/
def grp (z : Nat → Int) (m i : Nat) : Int := if m = 0 then 0 else z (i % m)

/-- Recall i, as it lies in memory. -/
def rec5 (s : Nat → ByteArray) (z : Nat → Int) (m : Nat) (mask : Int) (b0 b1 i : Nat) : List Value :=
  [.string (s i), .int .u32 (grp z m i), .string (s i), .string ⟨#[114]⟩, .pointer (onP mask b0 b1 i)]

/-- The cells that a slice which came in leads to: none, or they lie in a block that was there. -/
def Came (c : Nat → Value) (w : World) (a : Option Addr) (L : Nat) : Prop :=
  L = 0 ∨ ∃ b off, a = some ⟨b, off, none⟩ ∧ b < w.heap.size ∧ ∀ i, i < L → w.cell? ⟨b, off + i, none⟩ = some (c i)

theorem Came.below {c : Nat → Value} {w w' : World} {a : Option Addr} {L : Nat} (h : Came c w a L) (hb : Below w.heap.size w w') : Came c w' a L := by
  rcases h with h | ⟨b, off, h1, h2, h3⟩
  · exact .inl h
  · exact .inr ⟨b, off, h1, by have := hb.size; omega, fun i hi => (hb.cell (p := ⟨b, off + i, none⟩) h2).trans (h3 i hi)⟩

theorem Yba.info39 : (Yba.prog.info? 39).map (fun i => (i.zero, i.size, i.bytes)) = some (some (.agg #[.string ⟨#[]⟩, .int .u32 0, .string ⟨#[]⟩, .string ⟨#[]⟩, .pointer none]), 5, 64) := by kernel_rfl

end Go.Proofs.Ybulkbwnw
