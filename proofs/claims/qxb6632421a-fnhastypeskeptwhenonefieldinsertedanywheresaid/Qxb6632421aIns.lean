import Derived.Test.Qxb6632421aInsIn
import Derived.Test.Qxb6632421aInsOut
namespace Go.Proofs.Qxb6632421a
open Go.RowKit

theorem put_list (f : Nat → UInt8) (c : UInt8) {p len : Nat} (hp : p ≤ len) :
    (List.range (len + 1)).map (put f p c) = ((List.range len).map f).take p ++ ([c] ++ ((List.range len).map f).drop p) := by
  rw [map_range_take f hp, map_range_drop f p len]
  refine List.ext_getElem (by simp; omega) fun i h1 h2 => ?_
  simp at h1
  simp only [List.getElem_map, List.getElem_range, put]
  by_cases h : i < p
  · rw [if_pos h, List.getElem_append_left (by simpa using h)]
    simp
  · rw [if_neg h, List.getElem_append_right (by simpa using h)]
    by_cases e : i = p
    · subst e
      simp
    · rw [if_neg e, List.getElem_append_right (by simp; omega)]
      simp only [List.getElem_map, List.getElem_range, List.length_map, List.length_range, List.length_singleton]
      congr 1
      omega

theorem strOne (c : UInt8) : (strOfNums [(c.toNat : Int)]).data.toList = [c] := by
  rw [strOfNums_data]; simp

theorem append_list (a b : ByteArray) : (a ++ b).data.toList = a.data.toList ++ b.data.toList := by simp

theorem eqB_put_in {f : Nat → UInt8} {len p : Nat} {s : ByteArray} (c : UInt8) (hp : p ≤ len) (hs : p ≤ s.size) :
    eqB (put f p c) (len + 1) (s.extract 0 p ++ strOfNums [(c.toNat : Int)] ++ s.extract p s.size) = eqB f len s := by
  unfold eqB
  rw [put_list f c hp, append_list, append_list, strOne, extract_list, extract_list, List.drop_zero, List.take_of_length_le (l := s.data.toList) (i := s.size) (by simp), List.append_assoc]
  refine decide_eq_decide.2 ⟨fun e => ?_, fun e => by rw [e]⟩
  have hlen : (((List.range len).map f).take p).length = (s.data.toList.take p).length := by
    simp; omega
  obtain ⟨e1, e2⟩ := List.append_inj e hlen
  have e3 := List.append_cancel_left e2
  rw [← List.take_append_drop p ((List.range len).map f), e1, e3, List.take_append_drop]

theorem eqB_put_out {f : Nat → UInt8} {len p : Nat} {s : ByteArray} (c : UInt8) (hp : p ≤ len) (hs : s.size < p) :
    eqB (put f p c) (len + 1) (s ++ strOfNums [(c.toNat : Int)]) = eqB f len s := by
  have h1 : eqB f len s = false := eqB_len (by omega)
  have h2 : eqB (put f p c) (len + 1) (s ++ strOfNums [(c.toNat : Int)]) = false := eqB_len (by rw [ByteArray.size_append, strOfNums_size]; simp; omega)
  rw [h1, h2]

theorem stale_no {f : Nat → UInt8} {len p : Nat} {s : ByteArray} (c : UInt8) (h : eqB f len s = true) : eqB (put f p c) (len + 1) s = false := by
  refine eqB_len fun e => ?_
  have := congrArg List.length (of_decide_eq_true h)
  simp at this
  omega

/-- the law inside its bounds -/
theorem ins_all (a : Option Addr) (len cap : Nat) (f : Nat → UInt8) (s : ByteArray) (p : Nat) (c : UInt8) (w : World) (hl : len ≤ 524288) (hs : s.size ≤ 524288)
    (hc : ∀ i, i < len → ∃ b off, a = some ⟨b, off, none⟩ ∧ w.cell? ⟨b, off + i, none⟩ = some (.int .u8 (f i).toNat)) (hp : p ≤ len) :
    Calls Try.prog 4 #[.slice a len cap, .string s, .int .i64 p, .int .u8 c.toNat] w fun e w' => e = .returned (.bool true) ∧ Below w.heap.size w w' := by
  by_cases hps : p ≤ s.size
  · exact insIn_main a len cap f s p c w hl hs hc hp hps _ _ rfl (eqB_put_in c hp hps) rfl (fun h => stale_no c h) (want_eq f len s)
  · exact insOut_main a len cap f s p c w hl hs hc hp (by omega) _ _ rfl (eqB_put_out c hp (by omega)) rfl (fun h => stale_no c h) (want_eq f len s)

/-- a byte out of a well-formed number -/
theorem byte_of {z : Int} (h : (Lit.int .u8 z).wf = true) : z = ((UInt8.ofNat z.toNat).toNat : Int) := by
  simp [Lit.wf, IntKind.min, IntKind.max, IntKind.signed, IntKind.bits] at h
  simp
  omega
end Go.Proofs.Qxb6632421a
