import Derived.Test.Qxb6632526aRows
import Derived.Test.Qxb6632526aRange
import Derived.DeepKeys4
import Derived.Maps.OwnSet
namespace Go.Proofs.Qxb6632526a
open Go.RowKit Go.Maps

theorem laidOut : laidOutB Try.prog = true := by kernel_rfl

theorem keyed9 : Keyed Try.prog 9 := string_keyed Try.underlying9
theorem keyed59 : Keyed Try.prog 59 := Keyed.of_law (deep_law_laid laidOut (m := 3) (by omega) (of_decide_eq_true (by kernel_rfl)) (by kernel_rfl) (by kernel_rfl))

theorem key_str {s : ByteArray} (h : s.size ≤ maxLen) : keyOf Try.prog 9 (.string s) = some (.string s.data.toList) := by
  simp [keyOf, mapKey, Try.underlying9, h]

theorem Try.cells9 : Try.prog.cellsOf 9 = 1 := by kernel_rfl
theorem Try.cells59 : Try.prog.cellsOf 59 = 3 := by kernel_rfl
theorem Try.keyType59 : Try.prog.keyType 59 = true := by kernel_rfl
theorem Try.cells57 : Try.prog.cellsOf 57 = 1 := by kernel_rfl
theorem keyLits_str (d : Nat) {s : ByteArray} (h : s.size ≤ maxLen) : Try.prog.keyLits (d + 1) 9 [.string s] = some [.string s.data.toList] := by
  unfold Program.keyLits
  rw [Try.underlying9]
  simp [h]

theorem keyLits_int (d : Nat) {q : Int} (h : (Lit.int .i64 q).wf = true) : Try.prog.keyLits (d + 1) 57 [.int .i64 q] = some [.int .i64 q] := by
  unfold Program.keyLits
  rw [Try.underlying57]
  simp [h]

/-- a place can be a key -/
theorem key_place {p n : ByteArray} {q : Int} (hp : p.size ≤ maxLen) (hn : n.size ≤ maxLen) (hq : (Lit.int .i64 q).wf = true) : ∃ l, keyOf Try.prog 59 (.agg #[.string p, .int .i64 q, .string n]) = some l := by
  have h1 : Try.prog.keyLits (116 + 1 + 1) 59 [.string p, .int .i64 q, .string n] = some [.string p.data.toList, .int .i64 q, .string n.data.toList] := by
    unfold Program.keyLits
    rw [Try.underlying59]
    simp [Try.cells59, Try.cells9, Try.cells57, keyLits_str _ hp, keyLits_str _ hn, keyLits_int _ hq]
  refine ⟨.string (keyBytes [.string p.data.toList, .int .i64 q, .string n.data.toList]), ?_⟩
  unfold keyOf
  rw [Try.underlying59]
  simp [Try.keyType59, Value.formed, Try.underlying59, Try.cells59, Value.cells]
  exact ⟨_, h1, rfl⟩
end Go.Proofs.Qxb6632526a
