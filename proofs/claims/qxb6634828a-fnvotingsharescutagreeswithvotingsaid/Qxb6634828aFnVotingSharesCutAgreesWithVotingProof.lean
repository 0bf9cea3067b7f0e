/-
  THE PROOF OF 'Rows.FnVotingSharesCutAgreesWithVotingSaid': the frame after the guide's shell for a law over slices (turned by hand to a slice of structs), the walks in the seat's other texts.
-/
import Derived.Test.Qxb6634828aRows
import Derived.WalkKit
import Derived.ProofKit
import Derived.OpenShut
import Derived.ChangeOld
import Derived.Below
import Derived.Test.Qxb6634828aOpen
import Derived.Test.Qxb6634828aCutLt
import Derived.Test.Qxb6634828aCutEnd
import Derived.Test.Qxb6634828aCutFull
namespace Go.Proofs.Qxb6634828a.fnVotingSharesCutAgreesWithVoting
open Go.ChangeShapes Go.WideShapes Go.ChangeAt Go.RowKit

theorem own : ownKnob Try.prog.godebug = none := by kernel_rfl
theorem laidOut : laidOutB Try.prog = true := by kernel_rfl

set_option maxHeartbeats 400000 in
theorem walk (t : Int) (a : Option Addr) (len cap : Nat) (H : Nat → Hd) (k : Int) (w : World) (ht : (Lit.int .i64 t).wf = true) (hlc : len ≤ cap) (hcap : cap ≤ maxLen)
    (hc : ∀ i, i < cap → ∃ b off, a = some ⟨b, off, none⟩ ∧ HdAt w b (off + i * 4) (H i)) :
    Calls Try.prog 3 #[.int .i64 t, .slice a len cap, .int .i64 k] w fun e w' => e = .returned (.bool true) ∧ Below w.heap.size w w' := by
  unfold maxLen at hcap
  have HC : Hid (∀ i, i < cap → ∃ b off, a = some ⟨b, off, none⟩ ∧ HdAt w b (off + i * 4) (H i)) := hc
  have HT : Hid (wrap64 t = t) := wrap_of_wf ht
  clear hc ht
  by_cases h1 : 1048576 < len
  · go_enter Try.func3, Try.ntmps3
    go_wp2
    go_ret
    exact ⟨rfl, Below.refl _ _⟩
  by_cases h2 : 32768 < len
  · go_enter Try.func3, Try.ntmps3
    go_wp2
    go_ret
    exact ⟨rfl, Below.refl _ _⟩
  by_cases h3 : k < 0
  · go_enter Try.func3, Try.ntmps3
    go_wp2
    go_ret
    exact ⟨rfl, Below.refl _ _⟩
  by_cases h4 : (len : Int) < k
  · go_enter Try.func3, Try.ntmps3
    go_wp2
    go_ret
    exact ⟨rfl, Below.refl _ _⟩
  obtain ⟨c, rfl⟩ := Int.eq_ofNat_of_zero_le (Int.not_lt.1 h3)
  have hc := HC.out
  by_cases hcc : cap = c
  · subst hcc
    obtain rfl : len = cap := by omega
    exact cutFull t a H len w (by omega) hc HT
  · obtain ⟨b, off, rfl, _⟩ := hc 0 (by omega)
    have hc' : ∀ i, i < len → HdAt w b (off + i * 4) (H i) := by
      intro i hi
      obtain ⟨b', off', e, h⟩ := hc i (by omega)
      simp only [Option.some.injEq, Addr.mk.injEq] at e
      obtain ⟨rfl, rfl, _⟩ := e
      exact h
    by_cases hlt : c < len
    · exact cutLt t b off len cap H c w (by omega) hcap hlc hc' hlt HT
    · obtain rfl : c = len := by omega
      exact cutEnd t b off cap H c w (by omega) hcap (by omega) hc' HT

set_option maxRecDepth 100000 in
theorem lifted (os : Os) (started : os.Started) (H : Type) (enc : TypeId × Value → H) :
    ReturnsInHanded {} Try.checked os 3 .any (Rows.fnVotingSharesCutAgreesWithVotingSpec.pre6 enc Try.prog Try.f3 Rows.fnVotingSharesCutAgreesWithVotingRow.domain false) (Rows.fnVotingSharesCutAgreesWithVotingSpec.post enc Try.prog Try.f3 false true false false) := by
  refine returnsInHanded_of_change (C := Try.checked) own started (by kernel_rfl) Try.func3
    (ChangeSpec.witness6 (enc := enc) (C := Try.checked) false ⟨#[], #[.int .i64 0, .slice none 0 0, .int .i64 0], []⟩ 8 (by kernel_rfl) (by kernel_rfl) (by kernel_rfl) (by kernel_rfl)) ?_
  intro W base args ds gs before hval0 hW hcnd _
  have hval : ∀ (j : Nat) t v, Try.f3.params[j]? = some t → args[j]? = some v → Value.okWide Try.prog W .any base t v := hval0
  have hW' := hW
  obtain ⟨p, q, hA0, hV, rfl, hfz, hnd⟩ := hW
  have hA : DataW.TrodAll enc Try.prog W 0 (fun _ => true) true Try.f3.params.toList args.toList ds p := hA0
  rw [Try.params3] at hA hval
  obtain ⟨v0, vs0, d0, ds0, p0, q0, hargs, rfl, rfl, h0, r0⟩ := trodAll_cons hA
  obtain ⟨v1, vs1, d1, ds1, p1, q1, rfl, rfl, rfl, h1, r1⟩ := trodAll_cons r0
  obtain ⟨v2, vs2, d2, ds2, p2, q2, rfl, rfl, rfl, h2, r2⟩ := trodAll_cons r1
  obtain ⟨rfl, rfl, rfl⟩ := trodAll_nil r2
  obtain rfl : args = #[v0, v1, v2] := by cases args; simp_all
  obtain ⟨rfl, rfl⟩ := trodVars_none hV
  obtain ⟨a0, rfl, rfl, rfl, w0⟩ := open_int Try.underlying2 (hval 0 2 v0 rfl rfl) h0
  obtain ⟨a1, len1, cap1, rfl⟩ := okWide_slice Try.underlying22 (hval 1 22 v1 rfl rfl)
  have k1 := h1
  have lt1 : ∀ x ∈ p1, x.block < W.heap.size := by obtain ⟨m, hm⟩ := k1; exact DataW.trod_lt m _ _ _ hm
  obtain ⟨hlc, hcap, HH, hcells⟩ : len1 ≤ cap1 ∧ cap1 ≤ maxLen ∧ ∃ HH : Nat → Hd, ∀ i, i < cap1 → ∃ b off, a1 = some ⟨b, off, none⟩ ∧ HdAt W b (off + i * 4) (HH i) := by
    obtain ⟨fuel, hf⟩ := h1
    exact open_holders (by simpa [Value.cells] using hf)
  obtain ⟨a2, rfl, rfl, rfl, w2⟩ := open_int Try.underlying3 (hval 2 3 v2 rfl rfl) h2
  clear hA0 hval0
  refine (walk a0 a1 len1 cap1 HH a2 W w0 hlc hcap hcells).mono fun e W' ⟨he, bel⟩ => ?_
  subst he
  exact ⟨_, rfl, _, _, _, [], _, [], hW', trodAll_mk1 (shut_bool Try.underlying4 _), (trodAll_cons_mk (shut_int Try.underlying2 w0) (trodAll_cons_mk (Below.trod laidOut (by kernel_rfl) (of_decide_eq_true (by kernel_rfl)) k1 bel lt1) (trodAll_cons_mk (shut_int Try.underlying3 w2) trodAll_mk0))), rfl, bel.frame _, fun h => by cases h⟩

theorem over : Rows.fnVotingSharesCutAgreesWithVotingRow.holds Try.pinned (OpenSpec.ofChange Rows.fnVotingSharesCutAgreesWithVotingSpec) :=
  OpenClaim.holds_of_wide 3 Try.f3 rfl rfl rfl rfl rfl rfl rfl ⟨rfl, rfl, rfl, rfl, rfl⟩ rfl rfl rfl rfl rfl (by kernel_rfl) Try.func3 (by kernel_rfl)
    (of_decide_eq_true (by kernel_rfl)) (by unfold Func.isWrapper; first | (rw [if_pos (by decide +kernel)]; kernel_rfl) | (rw [if_neg (by decide +kernel)]; exact ⟨rfl, rfl⟩))
    (fun os started H enc _ => lifted os started H enc)

theorem proved : Rows.FnVotingSharesCutAgreesWithVotingSaid := over
end Go.Proofs.Qxb6634828a.fnVotingSharesCutAgreesWithVoting

namespace Go.Proofs.Qxb6634828a
theorem fnVotingSharesCutAgreesWithVoting_proved : Rows.FnVotingSharesCutAgreesWithVotingSaid := fnVotingSharesCutAgreesWithVoting.proved
end Go.Proofs.Qxb6634828a
