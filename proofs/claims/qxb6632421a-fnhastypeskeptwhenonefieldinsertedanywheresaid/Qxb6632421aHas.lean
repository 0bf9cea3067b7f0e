import Derived.Test.Qxb6632421aMk
import Derived.Deep.QuietTactic
import Derived.BigQuiet
import Derived.WalkLawsBesides
namespace Go.Proofs.Qxb6632421a
open Go.RowKit

/-- do the fields' types f 0 .. f (len - 1) spell s? -/
def eqB (f : Nat → UInt8) (len : Nat) (s : ByteArray) : Bool := decide ((List.range len).map f = s.data.toList)

theorem eqB_len {f : Nat → UInt8} {len : Nat} {s : ByteArray} (h : ¬ len = s.size) : eqB f len s = false := by
  refine decide_eq_false fun e => h ?_
  have := congrArg List.length e
  simpa using this

theorem eqB_yes {f : Nat → UInt8} {s : ByteArray} (h : ∀ i, (hi : i < s.size) → f i = s[i]) : eqB f s.size s = true := by
  refine decide_eq_true (List.ext_getElem (by simp) fun i h1 h2 => ?_)
  simp at h1
  simp only [List.getElem_map, List.getElem_range]
  exact h i h1

theorem eqB_no {f : Nat → UInt8} {s : ByteArray} {k : Nat} (hk : k < s.size) (h : f k ≠ s[k]) : eqB f s.size s = false := by
  refine decide_eq_false fun e => h ?_
  have := congrArg (fun l => l[k]?) e
  simp only [List.getElem?_map, List.getElem?_range hk, Option.map_some] at this
  have h2 : s.data.toList[k]? = some s[k] := by
    rw [List.getElem?_eq_getElem (by simpa using hk)]; rfl
  rw [h2] at this
  simpa using this

theorem ret_bool {a b : Bool} (h : a = b) : Ending.returned (.bool a) = .returned (.bool b) := by rw [h]

set_option maxHeartbeats 400000 in
theorem has_any (g len : Nat) (f : Nat → UInt8) (s : ByteArray) (w : World) (hs : s.size ≤ 2097152) (hl : len ≤ 1048576) (hrow : w.rowIs g 32 (len * 2) (fldAt f len)) :
    Calls Try.prog 7 #[.agg #[.slice none 0 0, .slice (some ⟨g, 0, none⟩) len len, .int .i64 0], .string s] w fun e w' => e = .returned (.bool (eqB f len s)) ∧ Below w.heap.size w w' := by
  by_cases hne : len = s.size
  · subst hne
    have hgl := hrow.lt
    go_enter Try.func7, Try.ntmps7
    go_wp2
    go_loopw [16] (fun i wr => ∃ k : Nat, k ≤ s.size ∧ i = .int .i64 k ∧ Below w.heap.size w wr ∧ ∀ i, (hi : i < s.size) → i < k → f i = s[i]) (fun i _ => s.size - (intOf i).toNat)
    case atStart => exact ⟨0, Nat.zero_le _, rfl, (Below.refl _ _).alloc (Nat.le_refl _) _, fun _ _ h => absurd h (Nat.not_lt_zero _)⟩
    case round =>
      obtain ⟨k, hk, rfl, hbel, hall⟩ := hrel
      have hsz := hbel.size
      by_cases hlt : k < s.size
      · have c0 : wr.cell? ⟨g, k * 2, none⟩ = some (.int .u8 (f k).toNat) := by
          rw [hbel.cell (p := ⟨g, k * 2, none⟩) hgl, hrow.cell (i := k * 2) (by omega)]
          simp [fldAt, hlt]
        have c1 : wr.cell? ⟨g, k * 2 + 1, none⟩ = some (.slice none 0 0) := by
          rw [hbel.cell (p := ⟨g, k * 2 + 1, none⟩) hgl, hrow.cell (i := k * 2 + 1) (by omega)]
          simp [fldAt]
        have hki : (k : Int) < (s.size : Int) := by omega
        clear hrow
        go_wp2
        go_quiet (fail)
        go_wp2
        · have hb : f k ≠ s[k] := fun e => by
            have h : ((f k).toNat : Int) ≠ (s[k].toNat : Int) := by
              have h : (((f k).toNat : Int) != (s[k].toNat : Int)) = true := by assumption
              simpa using h
            exact h (by rw [e])
          go_ret
          exact ⟨ret_bool (eqB_no hlt hb).symm, below_drewN (hbel.alloc hsz _) _⟩
        · have hb : f k = s[k] := by
            have h : (((f k).toNat : Int) != (s[k].toNat : Int)) = false := by assumption
            simp at h
            exact UInt8.toNat_inj.1 (by omega)
          go_roundw
          case rel =>
            refine ⟨k + 1, by omega, by go_num, below_drewN (hbel.alloc hsz _) _, fun i hi h => ?_⟩
            by_cases hik : i < k
            · exact hall i hi hik
            · obtain rfl : i = k := by omega
              exact hb
          case measure => simp [intOf]; omega
      · have hy : Hid (eqB f s.size s = true) := eqB_yes fun i hi => hall i hi (by omega)
        go_wp2
        go_ret
        exact ⟨ret_bool hy.out.symm, hbel⟩
  · have hne' : ((len : Int) != (s.size : Int)) = true := by simp; omega
    have HE : Hid (eqB f len s = false) := eqB_len hne
    go_enter Try.func7, Try.ntmps7
    go_wp2
    go_ret
    exact ⟨ret_bool HE.out.symm, (Below.refl _ _).alloc (Nat.le_refl _) _⟩
end Go.Proofs.Qxb6632421a
