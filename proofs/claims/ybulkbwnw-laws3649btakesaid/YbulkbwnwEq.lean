/-
  Comparisons: a slice with nil, a channel with nil, a pointer with itself.
-/
import Derived.Test.YbulkbwnwPlain
import Derived.Laws.Cover3
import Derived.LaidEql
namespace Go.Proofs.Ybulkbwnw
open Go.RowKit

theorem ne22 (W : World) (a : Option Addr) (l c : Nat) : (binOp .neq 22 (.slice a l c) (.slice none 0 0)).run Yba.prog W = .ok (.bool (!a.isNone)) W := run_neq_slice_nil W 22 9 a l c Yba.underlying22
theorem ne33 (W : World) (a : Option Addr) (l c : Nat) : (binOp .neq 33 (.slice a l c) (.slice none 0 0)).run Yba.prog W = .ok (.bool (!a.isNone)) W := run_neq_slice_nil W 33 39 a l c Yba.underlying33
theorem eq22 (W : World) (a : Option Addr) (l c : Nat) : (binOp .eql 22 (.slice a l c) (.slice none 0 0)).run Yba.prog W = .ok (.bool a.isNone) W := by
  have h := run_equal_slice_nil (P := Yba.prog) W 22 9 a l c Yba.underlying22
  simp [binOp, h]
theorem eq33 (W : World) (a : Option Addr) (l c : Nat) : (binOp .eql 33 (.slice a l c) (.slice none 0 0)).run Yba.prog W = .ok (.bool a.isNone) W := by
  have h := run_equal_slice_nil (P := Yba.prog) W 33 39 a l c Yba.underlying33
  simp [binOp, h]
theorem equalIn28 (W : World) (d : Nat) : (Op.equalIn (d + 1) 28 (.chan none) (.chan none)).run Yba.prog W = .ok true W := by simp [Op.equalIn, run_underlying Yba.underlying28]
theorem ne28 (W : World) : (binOp .neq 28 (.chan none) (.chan none)).run Yba.prog W = .ok (.bool false) W := by
  simp only [binOp]
  simp [Op.equal, Op.maxDepth, equalIn28 W 9999]
theorem equalIn50 (W : World) (d : Nat) (a : Addr) : (Op.equalIn (d + 1) 50 (.pointer (some a)) (.pointer (some a))).run Yba.prog W = .ok true W := by
  simp [Op.equalIn, run_underlying Yba.underlying50, Yba.sizeOf39, run_sameAddr_same]
theorem ne50 (W : World) (a : Addr) : (binOp .neq 50 (.pointer (some a)) (.pointer (some a))).run Yba.prog W = .ok (.bool false) W := by
  simp only [binOp]
  simp [Op.equal, Op.maxDepth, equalIn50 W 9999 a]
theorem equalIn25 (W : World) (d : Nat) (a : Option Addr) : (Op.equalIn (d + 1) 25 (.pointer a) (.pointer a)).run Yba.prog W = .ok true W := by
  cases a <;> simp [Op.equalIn, run_underlying Yba.underlying25, Yba.sizeOf32, run_sameAddr_same]
theorem ne25 (W : World) (a : Option Addr) : (binOp .neq 25 (.pointer a) (.pointer a)).run Yba.prog W = .ok (.bool false) W := by
  simp only [binOp]
  simp [Op.equal, Op.maxDepth, equalIn25 W 9999 a]

end Go.Proofs.Ybulkbwnw
