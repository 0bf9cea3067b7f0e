/-
  THE SHELL OF A PROOF OF 'Rows.FnUvarintLenIsSevenBitGroupsSaid' ('example.com/manyhead/manyhead/zzlaws_internal_enc_b1.FnUvarintLenIsSevenBitGroups'), WRITTEN BY PROGRAM (proof-skeleton.mjs) off the guide's own print for that function.
  The hole (the walk) is filled; all else is the shell's own.
-/
import Derived.Test.Qxb6632620aRows
import Derived.WalkKit
import Derived.ProofKit
import Derived.OpenShut
import Derived.ShutString
import Derived.Test.Qxb6632620aWalks
namespace Go.Proofs.Qxb6632620a.fnUvarintLenIsSevenBitGroups
open Go.ChangeShapes Go.WideShapes Go.ChangeAt Go.RowKit
open Go.ChangeMaps (open_string shut_string)
open Plain
set_option linter.unusedVariables false      -- a walk need not use every 'w<i>' (that an integer argument fits its kind)

theorem own : ownKnob Try.prog.godebug = none := by kernel_rfl

theorem back128 (x : Int) (h0 : 0 ≤ x) (h : x < 144115188075855872) : IntKind.u64.wrap (wrap64 (x * 128)) = x * 128 := by
  unfold IntKind.wrap wrap64
  simp [IntKind.signed, IntKind.bits]
  omega

theorem back128' (x : Int) (h0 : 0 ≤ x) (h : x < 144115188075855872) : (IntKind.u64.wrap (wrap64 (x * 128)) == x * 128) = true := by
  rw [back128 x h0 h]; simp

theorem U128 (x : Int) (u : Nat) (e : x = u) (h : x < 144115188075855872) : U (wrap64 (x * 128)) = u * 128 := by
  unfold U
  rw [back128 x (by omega) h]
  omega

/-! ### STEP 1: THE WALK: the Go text returns true. 'Grown w w'': the world has at most new blocks (Derived/RowKit3.lean). Part the cases AHEAD of 'go_enter' where a test parts the walk; take each callee by a contract of your own. -/
set_option maxHeartbeats 400000 in
set_option maxRecDepth 100000 in
theorem walk (a0 : Int) (w0 : (Lit.int .i64 a0).wf = true) (w : World) :
    Calls Try.prog 3 #[.int .i64 a0] w fun e w' => e = .returned (.bool true) ∧ Grown w w' := by
  have hU := U_eq a0
  have hlt : Hid (U a0 < 2 ^ 64) := U_lt a0
  generalize hu : U a0 = u at *
  have HU : Hid (U a0 = u) := hu
  clear hu
  obtain ⟨x, hx⟩ : ∃ x : Int, x = (u : Int) := ⟨_, rfl⟩
  rw [← hx] at hU
  have hx0 : 0 ≤ x := by omega
  have HX : Hid (x = (u : Int)) := hx
  clear hx
  go_enter Try.func3, Try.ntmps3
  go_wp2_with fail
  refine (uv_any _ _).mono ?_
  rintro e w' ⟨k, rfl, hk, rfl⟩
  rw [HU.out] at hk
  have HK : Hid (IsUv u k) := hk
  clear hk hU
  go_wp2_with fail
  go_loop [5, 6] (fun s y => ∃ b v : Nat, s = .int .i64 b ∧ y = .int .u64 v ∧ BlAt u b v) (fun _ y => (intOf y).toNat)
  case atStart => exact ⟨0, u, rfl, by rw [HX.out], BlAt.start u⟩
  case round =>
    obtain ⟨b, v, rfl, rfl, hr⟩ := hrel
    have hb : b ≤ 64 := hr.le_64 hlt.out
    by_cases hc : v = 0
    · have hn := hr.stop hc
      have he : Hid (k = if (b + 6) / 7 = 0 then 1 else (b + 6) / 7) := HK.out.unique hn.uv
      subst hc
      by_cases hz : b = 0
      · have hu0 : x = 0 := by obtain ⟨h, _⟩ := hn; rw [hz] at h; have := HX.out; simp at h; omega
        have hk1 : k = 1 := by have := he.out; rw [hz] at this; simpa using this
        subst hz hu0 hk1
        clear he hn hr HK hlt
        go_wp2_with fail
        go_ret
        exact ⟨rfl, Grown.refl _⟩
      · have hu0 : (x != 0) = true := by
          obtain ⟨_, h⟩ := hn
          have hp : 0 < 2 ^ (b - 1) := Nat.pow_pos (by omega)
          have := HX.out
          rcases h with h | h
          · exact absurd h hz
          · simp; omega
        have hk1 : 7 * k ≤ b + 6 := by have := he.out; rw [if_neg (by omega)] at this; omega
        have hk2 : b + 6 < 7 * k + 7 := by have := he.out; rw [if_neg (by omega)] at this; omega
        clear he hn hr
        by_cases hs : x < 144115188075855872
        · clear hlt
          have hcv := back128' x hx0 hs
          have hU2 : Hid (U (wrap64 (x * 128)) = u * 128) := U128 x u HX.out hs
          have hne : Hid (u ≠ 0) := by
            have := HX.out
            intro h
            rw [h] at this
            rw [this] at hu0
            simp at hu0
          go_wp2_with fail
          refine (uv_any _ _).mono ?_
          rintro e w1 ⟨m, rfl, hm, rfl⟩
          rw [hU2.out] at hm
          have hmk : m = k + 1 := hm.unique (HK.out.shift hne.out)
          subst hmk
          clear hm
          go_wp2_with fail
          go_ret
          exact ⟨rfl, Grown.refl _⟩
        · clear hlt
          go_wp2_with fail
          go_ret
          exact ⟨rfl, Grown.refl _⟩
    · have hn : Hid (BlAt u (b + 1) (v / 2)) := hr.next hc
      clear hr HK hlt
      have hc' : ((v : Int) != 0) = true := by simp; omega
      go_wp2_with fail
      go_round
      case rel => exact ⟨b + 1, v / 2, by go_num, by go_num, hn.out⟩
      case measure => simp [intOf]; omega

/-! ### THE ROW's STEP: WRITTEN OUT: LEAVE IT -/
set_option maxRecDepth 100000 in
theorem lifted (os : Os) (started : os.Started) (H : Type) (enc : TypeId × Value → H) :
    ReturnsInHanded {} Try.checked os 3 .any (Rows.fnUvarintLenIsSevenBitGroupsSpec.pre6 enc Try.prog Try.f3 Rows.fnUvarintLenIsSevenBitGroupsRow.domain false) (Rows.fnUvarintLenIsSevenBitGroupsSpec.post enc Try.prog Try.f3 false true false false) := by
  refine returnsInHanded_of_change (C := Try.checked) own started (by kernel_rfl) Try.func3
    (ChangeSpec.witness6 (enc := enc) (C := Try.checked) false ⟨#[], #[.int .i64 0], []⟩ 8 (by kernel_rfl) (by kernel_rfl) (by kernel_rfl) (by kernel_rfl)) ?_
  intro W base args ds gs before hval0 hW hcnd _
  have hval : ∀ (j : Nat) t v, Try.f3.params[j]? = some t → args[j]? = some v → Value.okWide Try.prog W .any base t v := hval0
  have hW' := hW
  obtain ⟨p, q, hA0, hV, rfl, hfz, hnd⟩ := hW
  have hA : DataW.TrodAll enc Try.prog W 0 (fun _ => true) true Try.f3.params.toList args.toList ds p := hA0
  rw [Try.params3] at hA hval
  obtain ⟨v0, vs0, d0, ds0, p0, q0, hargs, rfl, rfl, h0, r0⟩ := trodAll_cons hA
  obtain ⟨rfl, rfl, rfl⟩ := trodAll_nil r0
  obtain rfl : args = #[v0] := by cases args; simp_all
  obtain ⟨rfl, rfl⟩ := trodVars_none hV
  obtain ⟨a0, rfl, rfl, rfl, w0⟩ := open_int Try.underlying3 (hval 0 3 v0 rfl rfl) h0
  clear hA0 hval0
  simp only [List.append_nil] at hW'
  refine (walk a0 w0 W).mono fun e W' ⟨he, hg⟩ => ?_
  subst he
  exact ⟨_, rfl, post_of_same (pa := []) (pv := []) hW' (fun _ _ _ => (trodAll_cons_mk (shut_bool Try.underlying4 _) trodAll_mk0)) (fun sp _ => (trodAll_cons_mk (shut_int Try.underlying3 w0) trodAll_mk0)) (fun _ _ => rfl) rfl
    (hg.frame _) hg.2.1 (ok_one (by kernel_rfl) rfl (okWide_bool_mk Try.underlying4 _))⟩

theorem over : Rows.fnUvarintLenIsSevenBitGroupsRow.holds Try.pinned (OpenSpec.ofChange Rows.fnUvarintLenIsSevenBitGroupsSpec) :=
  OpenClaim.holds_of_wide 3 Try.f3 rfl rfl rfl rfl rfl rfl rfl ⟨rfl, rfl, rfl, rfl, rfl⟩ rfl rfl rfl rfl rfl (by kernel_rfl) Try.func3 (by kernel_rfl)
    (of_decide_eq_true (by kernel_rfl)) (by unfold Func.isWrapper; first | (rw [if_pos (by decide +kernel)]; kernel_rfl) | (rw [if_neg (by decide +kernel)]; exact ⟨rfl, rfl⟩))
    (fun os started H enc _ => lifted os started H enc)

/-- ████ THE STATEMENT ████ -/
theorem proved : Rows.FnUvarintLenIsSevenBitGroupsSaid :=
  over
end Go.Proofs.Qxb6632620a.fnUvarintLenIsSevenBitGroups

namespace Go.Proofs.Qxb6632620a
theorem fnUvarintLenIsSevenBitGroups_proved : Rows.FnUvarintLenIsSevenBitGroupsSaid := fnUvarintLenIsSevenBitGroups.proved
end Go.Proofs.Qxb6632620a
