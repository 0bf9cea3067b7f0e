import Derived.Test.Qxb6632421aDict
import Derived.Laws.BytesArg
namespace Go.Proofs.Qxb6632421a
open Go.RowKit

theorem has_dict_b {p g len : Nat} {f : Nat → UInt8} {s : ByteArray} {w : World} {bb : Bool} (hs : s.size ≤ 2097152) (hl : len ≤ 1048576) (h : DictAt w p g len f) (hb : eqB f len s = bb) :
    Calls Try.prog 7 #[.agg #[.slice none 0 0, .slice (some ⟨g, 0, none⟩) len len, .int .i64 0], .string s] w fun e w' => e = .returned (.bool bb) ∧ Below w.heap.size w w' := by
  subst hb
  exact has_any g len f s w hs hl h.row

theorem convert_any {w : World} {f : Nat → UInt8} {a : Option Addr} {len cap : Nat} (hc : ∀ i, i < len → ∃ b off, a = some ⟨b, off, none⟩ ∧ w.cell? ⟨b, off + i, none⟩ = some (.int .u8 (f i).toNat)) :
    (convert 22 9 (.slice a len cap)).run Try.prog w = .ok (.string (strOfNums ((List.range len).map fun i => ((f i).toNat : Int)))) w := by
  by_cases h0 : len = 0
  · subst h0
    rw [run_convert_bytes_string w 22 9 5 a 0 cap Try.underlying22 Try.underlying5 Try.underlying9]
    cases a with
    | none => rfl
    | some a =>
      have h := run_bytesToString (P := Try.prog) w a 0 cap [] (by rfl)
      rw [h]
      rfl
  · obtain ⟨b, off, rfl, _⟩ := hc 0 (by omega)
    refine run_convert_bytes_arg (P := Try.prog) w 22 5 Try.underlying22 Try.underlying5 b off len cap ((List.range len).map fun i => ((f i).toNat : Int)) (by simp) (fun i hi => ?_) 9 Try.underlying9
    obtain ⟨b', off', e, h⟩ := hc i hi
    simp only [Option.some.injEq, Addr.mk.injEq] at e
    obtain ⟨rfl, rfl, _⟩ := e
    rw [h]; simp [hi]

/-! ### the plain law -/
theorem toList_inj_data (s t : ByteArray) : (s.toList == t.toList) = decide (s.data.toList = t.data.toList) := by
  rw [ByteArray.toList_eq, ByteArray.toList_eq, Bool.eq_iff_iff]
  simp

theorem want_eq (f : Nat → UInt8) (len : Nat) (s : ByteArray) : ((strOfNums (List.map (fun i => ((f i).toNat : Int)) (List.range len))).toList == s.toList) = eqB f len s := by
  rw [toList_inj_data, strOfNums_data]
  unfold eqB
  congr 2
  simp

theorem extract_list (s : ByteArray) (i j : Nat) : (s.extract i j).data.toList = (s.data.toList.take j).drop i := by
  rw [List.drop_take]
  simp [ByteArray.data_extract, List.extract_eq_take_drop]

theorem map_range_take (f : Nat → UInt8) {c len : Nat} (h : c ≤ len) : ((List.range len).map f).take c = (List.range c).map f := by
  rw [← List.map_take, List.take_range, Nat.min_eq_left h]

theorem map_range_drop (f : Nat → UInt8) (c len : Nat) : ((List.range len).map f).drop c = (List.range (len - c)).map (fun i => f (c + i)) := by
  refine List.ext_getElem (by simp) fun i h1 h2 => ?_
  simp

theorem eqB_cut_no {f : Nat → UInt8} {len c : Nat} {s : ByteArray} (hc : c ≤ len) (h : eqB f c (s.extract 0 c) = false) : eqB f len s = false := by
  have h' := of_decide_eq_false h
  refine decide_eq_false fun e => h' ?_
  rw [extract_list, List.drop_zero, ← e, map_range_take f hc]

theorem eqB_cut_yes {f : Nat → UInt8} {len c : Nat} {s : ByteArray} (hc : c ≤ len) (h : eqB f c (s.extract 0 c) = true) : eqB (fun i => f (c + i)) (len - c) (s.extract c s.size) = eqB f len s := by
  have h' := of_decide_eq_true h
  rw [extract_list, List.drop_zero] at h'
  unfold eqB
  rw [extract_list, List.take_of_length_le (by simp), ← map_range_drop f c len]
  refine decide_eq_decide.2 ⟨fun e => ?_, fun e => by rw [e]⟩
  rw [← List.take_append_drop c ((List.range len).map f), e, map_range_take f hc, h', List.take_append_drop]
end Go.Proofs.Qxb6632421a
