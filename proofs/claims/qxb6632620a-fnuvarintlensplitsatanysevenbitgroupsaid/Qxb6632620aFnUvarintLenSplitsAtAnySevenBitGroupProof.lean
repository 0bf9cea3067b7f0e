/-
  THE SHELL OF A PROOF OF 'Rows.FnUvarintLenSplitsAtAnySevenBitGroupSaid' ('example.com/manyhead/manyhead/zzlaws_internal_enc_b1.FnUvarintLenSplitsAtAnySevenBitGroup'), WRITTEN BY PROGRAM (proof-skeleton.mjs) off the guide's own print for that function.
  The hole (the walk) is filled; all else is the shell's own.
-/
import Derived.Test.Qxb6632620aRows
import Derived.WalkKit
import Derived.ProofKit
import Derived.OpenShut
import Derived.ShutString
import Derived.Test.Qxb6632620aWalks
namespace Go.Proofs.Qxb6632620a.fnUvarintLenSplitsAtAnySevenBitGroup
open Go.ChangeShapes Go.WideShapes Go.ChangeAt Go.RowKit
open Go.ChangeMaps (open_string shut_string)
open Plain
set_option linter.unusedVariables false      -- a walk need not use every 'w<i>' (that an integer argument fits its kind)

theorem own : ownKnob Try.prog.godebug = none := by kernel_rfl

theorem back (x : Int) (h : Nat) (e : x = h) (hh : h < 2 ^ 64) : (IntKind.u64.wrap (wrap64 x) != x) = false := by
  have : IntKind.u64.wrap (wrap64 x) = x := by
    unfold IntKind.wrap wrap64
    simp [IntKind.signed, IntKind.bits]
    omega
  rw [this]; simp

theorem U_self {v : Nat} (h : v < 2 ^ 64) : U (v : Int) = v := by
  unfold U IntKind.wrap
  simp [IntKind.signed, IntKind.bits]
  omega

theorem ret_bool {a b : Bool} (h : a = b) : Ending.returned (.bool a) = .returned (.bool b) := by rw [h]

/-! ### STEP 1: THE WALK: the Go text returns true. 'Grown w w'': the world has at most new blocks (Derived/RowKit3.lean). Part the cases AHEAD of 'go_enter' where a test parts the walk; take each callee by a contract of your own. -/
set_option maxHeartbeats 400000 in
set_option maxRecDepth 100000 in
theorem walk (a0 : Int) (a1 : Int) (w0 : (Lit.int .i64 a0).wf = true) (w1 : (Lit.int .i64 a1).wf = true) (w : World) :
    Calls Try.prog 4 #[.int .i64 a0, .int .i64 a1] w fun e w' => e = .returned (.bool true) ∧ Grown w w' := by
  have hU := U_eq a0
  have hlt : Hid (U a0 < 2 ^ 64) := U_lt a0
  generalize hu : U a0 = u at *
  have HU : Hid (U a0 = u) := hu
  clear hu
  by_cases hj0 : a1 < 0
  · go_enter Try.func4, Try.ntmps4
    go_wp2_with fail
    go_ret
    exact ⟨rfl, Grown.refl _⟩
  by_cases hj9 : 9 < a1
  · go_enter Try.func4, Try.ntmps4
    go_wp2_with fail
    go_ret
    exact ⟨rfl, Grown.refl _⟩
  obtain ⟨j, rfl⟩ := Int.eq_ofNat_of_zero_le (Int.not_lt.1 hj0)
  have hj : j ≤ 9 := by omega
  clear hj0 hj9
  obtain ⟨h, hh⟩ : ∃ h : Nat, u / 2 ^ (7 * j) = h := ⟨_, rfl⟩
  obtain ⟨x, hx⟩ : ∃ x : Int, (u : Int) / 2 ^ (7 * j) = x := ⟨_, rfl⟩
  have hxh : x = (h : Int) := by rw [← hx, ← hh]; simp
  have hx0 : 0 ≤ x := by omega
  have hhl : h < 2 ^ 64 := by rw [← hh]; exact Nat.lt_of_le_of_lt (Nat.div_le_self _ _) hlt.out
  have hcv := back x h hxh hhl
  have hUx : Hid (U (wrap64 x) = h) := by rw [hxh]; exact U_nat hhl
  have hUx' : Hid (U x = h) := by rw [hxh]; exact U_self hhl
  have HH : Hid (u / 2 ^ (7 * j) = h) := hh
  have HX : Hid (x = (h : Int)) := hxh
  clear hh hxh hhl hlt
  by_cases hz : h = 0
  · have hx1 : x = 0 := by have := HX.out; omega
    subst hx1
    have hlow : ∀ k, IsUv u k → k ≤ (if j < 1 then 1 else j) := fun k hk => hk.low (by rw [HH.out, hz])
    have HL : Hid (∀ k, IsUv u k → k ≤ (if j < 1 then 1 else j)) := hlow
    clear hlow HX
    by_cases hj1 : j < 1
    · go_enter Try.func4, Try.ntmps4
      go_wp2_with fail
      refine (uv_any _ _).mono ?_
      rintro e w' ⟨k, rfl, hk, rfl⟩
      rw [HU.out] at hk
      have h1 := hk.1
      have h2 := HL.out k hk
      rw [if_pos hj1] at h2
      clear hk
      go_wp2_with fail
      go_ret
      exact ⟨ret_bool (decide_eq_true (by omega)), Grown.refl _⟩
    · go_enter Try.func4, Try.ntmps4
      go_wp2_with fail
      refine (uv_any _ _).mono ?_
      rintro e w' ⟨k, rfl, hk, rfl⟩
      rw [HU.out] at hk
      have h1 := hk.1
      have h2 := HL.out k hk
      rw [if_neg hj1] at h2
      clear hk
      go_wp2_with fail
      go_ret
      exact ⟨rfl, Grown.refl _⟩
  · have hx1 : (x != 0) = true := by have := HX.out; simp; omega
    have HC : Hid (∀ m, IsUv h m → IsUv u (j + m)) := fun m hm => IsUv.cut (by rw [HH.out]; exact hm) (by rw [HH.out]; exact hz)
    have H1 : Hid (∀ m, IsUv h m → x < 128 → m = 1) := fun m hm hl => hm.unique (IsUv.one (by have := HX.out; omega))
    have HT : Hid (∀ m, IsUv h m → m ≤ 10) := fun m hm => by
      have := hUx.out
      exact hm.le_ten (by rw [← this]; exact U_lt _)
    by_cases hs : x < 128
    all_goals
      go_enter Try.func4, Try.ntmps4
      go_wp2_with fail
      refine (uv_any _ _).mono ?_
      rintro e w' ⟨k, rfl, hk, rfl⟩
      rw [HU.out] at hk
      have HK : Hid (IsUv u k) := hk
      clear hk
      go_wp2_with fail
      refine (uv_any _ _).mono ?_
      rintro e w' ⟨m, rfl, hm, rfl⟩
      first | rw [hUx.out] at hm | rw [hUx'.out] at hm
      have hkm : k = j + m := HK.out.unique (HC.out m hm)
      have hm10 := HT.out m hm
      subst hkm
    · have hm1 := H1.out m hm hs
      subst hm1
      clear hm
      go_wp2_with fail
      go_ret
      exact ⟨rfl, Grown.refl _⟩
    · clear hm
      go_wp2_with fail
      go_ret
      exact ⟨rfl, Grown.refl _⟩

/-! ### THE ROW's STEP: WRITTEN OUT: LEAVE IT -/
set_option maxRecDepth 100000 in
theorem lifted (os : Os) (started : os.Started) (H : Type) (enc : TypeId × Value → H) :
    ReturnsInHanded {} Try.checked os 4 .any (Rows.fnUvarintLenSplitsAtAnySevenBitGroupSpec.pre6 enc Try.prog Try.f4 Rows.fnUvarintLenSplitsAtAnySevenBitGroupRow.domain false) (Rows.fnUvarintLenSplitsAtAnySevenBitGroupSpec.post enc Try.prog Try.f4 false true false false) := by
  refine returnsInHanded_of_change (C := Try.checked) own started (by kernel_rfl) Try.func4
    (ChangeSpec.witness6 (enc := enc) (C := Try.checked) false ⟨#[], #[.int .i64 0, .int .i64 0], []⟩ 8 (by kernel_rfl) (by kernel_rfl) (by kernel_rfl) (by kernel_rfl)) ?_
  intro W base args ds gs before hval0 hW hcnd _
  have hval : ∀ (j : Nat) t v, Try.f4.params[j]? = some t → args[j]? = some v → Value.okWide Try.prog W .any base t v := hval0
  have hW' := hW
  obtain ⟨p, q, hA0, hV, rfl, hfz, hnd⟩ := hW
  have hA : DataW.TrodAll enc Try.prog W 0 (fun _ => true) true Try.f4.params.toList args.toList ds p := hA0
  rw [Try.params4] at hA hval
  obtain ⟨v0, vs0, d0, ds0, p0, q0, hargs, rfl, rfl, h0, r0⟩ := trodAll_cons hA
  obtain ⟨v1, vs1, d1, ds1, p1, q1, rfl, rfl, rfl, h1, r1⟩ := trodAll_cons r0
  obtain ⟨rfl, rfl, rfl⟩ := trodAll_nil r1
  obtain rfl : args = #[v0, v1] := by cases args; simp_all
  obtain ⟨rfl, rfl⟩ := trodVars_none hV
  obtain ⟨a0, rfl, rfl, rfl, w0⟩ := open_int Try.underlying3 (hval 0 3 v0 rfl rfl) h0
  obtain ⟨a1, rfl, rfl, rfl, w1⟩ := open_int Try.underlying3 (hval 1 3 v1 rfl rfl) h1
  clear hA0 hval0
  simp only [List.append_nil] at hW'
  refine (walk a0 a1 w0 w1 W).mono fun e W' ⟨he, hg⟩ => ?_
  subst he
  exact ⟨_, rfl, post_of_same (pa := []) (pv := []) hW' (fun _ _ _ => (trodAll_cons_mk (shut_bool Try.underlying4 _) trodAll_mk0)) (fun sp _ => (trodAll_cons_mk (shut_int Try.underlying3 w0) (trodAll_cons_mk (shut_int Try.underlying3 w1) trodAll_mk0))) (fun _ _ => rfl) rfl
    (hg.frame _) hg.2.1 (ok_one (by kernel_rfl) rfl (okWide_bool_mk Try.underlying4 _))⟩

theorem over : Rows.fnUvarintLenSplitsAtAnySevenBitGroupRow.holds Try.pinned (OpenSpec.ofChange Rows.fnUvarintLenSplitsAtAnySevenBitGroupSpec) :=
  OpenClaim.holds_of_wide 4 Try.f4 rfl rfl rfl rfl rfl rfl rfl ⟨rfl, rfl, rfl, rfl, rfl⟩ rfl rfl rfl rfl rfl (by kernel_rfl) Try.func4 (by kernel_rfl)
    (of_decide_eq_true (by kernel_rfl)) (by unfold Func.isWrapper; first | (rw [if_pos (by decide +kernel)]; kernel_rfl) | (rw [if_neg (by decide +kernel)]; exact ⟨rfl, rfl⟩))
    (fun os started H enc _ => lifted os started H enc)

/-- ████ THE STATEMENT ████ -/
theorem proved : Rows.FnUvarintLenSplitsAtAnySevenBitGroupSaid :=
  over
end Go.Proofs.Qxb6632620a.fnUvarintLenSplitsAtAnySevenBitGroup

namespace Go.Proofs.Qxb6632620a
theorem fnUvarintLenSplitsAtAnySevenBitGroup_proved : Rows.FnUvarintLenSplitsAtAnySevenBitGroupSaid := fnUvarintLenSplitsAtAnySevenBitGroup.proved
end Go.Proofs.Qxb6632620a
