/-
  THE PROOF OF 'Rows.FnVotingSharesInsertOneHolderSaid': the frame after the guide's shell for a law over slices (turned by hand to a slice of structs), the walks in the seat's other texts.
-/
import Derived.Test.Qxb6634828aRows
import Derived.WalkKit
import Derived.ProofKit
import Derived.OpenShut
import Derived.ChangeOld
import Derived.Below
import Derived.Test.Qxb6634828aOpen
import Derived.Test.Qxb6634828aIns
namespace Go.Proofs.Qxb6634828a.fnVotingSharesInsertOneHolder
open Go.ChangeShapes Go.WideShapes Go.ChangeAt Go.RowKit

set_option maxRecDepth 100000 in
/-- a holder by value -/
theorem open_hd {K : Type} {enc : TypeId × Value → K} {w : World} {r : Reach} {b0 base : Nat} {spare : Nat → Bool} {held : Bool} {v : Value} {d : DataW K} {p : List MemPlace}
    (hv : Value.okWide Try.prog w r b0 43 v) (ht : DataW.Trod enc Try.prog w base spare held 43 v d p) : ∃ h : Hd, v = .agg #[.int .i64 h.sh, .bool h.tr, .int .u8 h.ro, .int .i64 h.re] := by
  obtain ⟨v0, v1, v2, v3, y0, y1, y2, y3, n, rfl, _, _, h0, h1, h2, h3⟩ := Go.Joins.open_agg4 Try.underlying43 (by kernel_rfl) Try.cells43 hv ht
  obtain ⟨s, e0, _, _⟩ := DataW.trod_int Try.underlying2 h0
  obtain ⟨t, e1, _⟩ := DataW.trod_bool Try.underlying4 h1
  obtain ⟨q, e2, _, _⟩ := DataW.trod_int Try.underlying5 h2
  obtain ⟨z, e3, _, _⟩ := DataW.trod_int Try.underlying2 h3
  simp at e0 e1 e2 e3
  subst e0 e1 e2 e3
  exact ⟨⟨s, t, q, z⟩, rfl⟩

theorem own : ownKnob Try.prog.godebug = none := by kernel_rfl
theorem laidOut : laidOutB Try.prog = true := by kernel_rfl

set_option maxHeartbeats 400000 in
theorem walk (t : Int) (a : Option Addr) (len cap : Nat) (H : Nat → Hd) (k : Int) (h : Hd) (w : World) (ht : (Lit.int .i64 t).wf = true) (hlc : len ≤ cap)
    (hc : ∀ i, i < cap → ∃ b off, a = some ⟨b, off, none⟩ ∧ HdAt w b (off + i * 4) (H i)) :
    Calls Try.prog 4 #[.int .i64 t, .slice a len cap, .int .i64 k, .agg #[.int .i64 h.sh, .bool h.tr, .int .u8 h.ro, .int .i64 h.re]] w fun e w' => e = .returned (.bool true) ∧ Below w.heap.size w w' := by
  have HC : Hid (∀ i, i < cap → ∃ b off, a = some ⟨b, off, none⟩ ∧ HdAt w b (off + i * 4) (H i)) := hc
  have HT : Hid (wrap64 t = t) := wrap_of_wf ht
  clear hc ht
  by_cases h1 : 1048576 < len
  · go_enter Try.func4, Try.ntmps4
    go_wp2
    go_ret
    exact ⟨rfl, ((Below.refl _ _).alloc (Nat.le_refl _) _).alloc (by simp) _⟩
  by_cases h2 : 32768 < len
  · go_enter Try.func4, Try.ntmps4
    go_wp2
    go_ret
    exact ⟨rfl, ((Below.refl _ _).alloc (Nat.le_refl _) _).alloc (by simp) _⟩
  by_cases h3 : k < 0
  · go_enter Try.func4, Try.ntmps4
    go_wp2
    go_ret
    exact ⟨rfl, ((Below.refl _ _).alloc (Nat.le_refl _) _).alloc (by simp) _⟩
  by_cases h4 : (len : Int) < k
  · go_enter Try.func4, Try.ntmps4
    go_wp2
    go_ret
    exact ⟨rfl, ((Below.refl _ _).alloc (Nat.le_refl _) _).alloc (by simp) _⟩
  obtain ⟨c, rfl⟩ := Int.eq_ofNat_of_zero_le (Int.not_lt.1 h3)
  exact ins_main t a len cap H c h w (by omega) (fun i hi => HC.out i (by omega)) (by omega) HT

set_option maxRecDepth 100000 in
theorem lifted (os : Os) (started : os.Started) (H : Type) (enc : TypeId × Value → H) :
    ReturnsInHanded {} Try.checked os 4 .any (Rows.fnVotingSharesInsertOneHolderSpec.pre6 enc Try.prog Try.f4 Rows.fnVotingSharesInsertOneHolderRow.domain false) (Rows.fnVotingSharesInsertOneHolderSpec.post enc Try.prog Try.f4 false true false false) := by
  refine returnsInHanded_of_change (C := Try.checked) own started (by kernel_rfl) Try.func4
    (ChangeSpec.witness6 (enc := enc) (C := Try.checked) false ⟨#[], #[.int .i64 0, .slice none 0 0, .int .i64 0, .agg #[.int .i64 0, .bool false, .int .u8 0, .int .i64 0]], []⟩ 8 (by kernel_rfl) (by kernel_rfl) (by kernel_rfl) (by kernel_rfl)) ?_
  intro W base args ds gs before hval0 hW hcnd _
  have hval : ∀ (j : Nat) t v, Try.f4.params[j]? = some t → args[j]? = some v → Value.okWide Try.prog W .any base t v := hval0
  have hW' := hW
  obtain ⟨p, q, hA0, hV, rfl, hfz, hnd⟩ := hW
  have hA : DataW.TrodAll enc Try.prog W 0 (fun _ => true) true Try.f4.params.toList args.toList ds p := hA0
  rw [Try.params4] at hA hval
  obtain ⟨v0, vs0, d0, ds0, p0, q0, hargs, rfl, rfl, h0, r0⟩ := trodAll_cons hA
  obtain ⟨v1, vs1, d1, ds1, p1, q1, rfl, rfl, rfl, h1, r1⟩ := trodAll_cons r0
  obtain ⟨v2, vs2, d2, ds2, p2, q2, rfl, rfl, rfl, h2, r2⟩ := trodAll_cons r1
  obtain ⟨v3, vs3, d3, ds3, p3, q3, rfl, rfl, rfl, h3, r3⟩ := trodAll_cons r2
  obtain ⟨rfl, rfl, rfl⟩ := trodAll_nil r3
  obtain rfl : args = #[v0, v1, v2, v3] := by cases args; simp_all
  obtain ⟨rfl, rfl⟩ := trodVars_none hV
  obtain ⟨a0, rfl, rfl, rfl, w0⟩ := open_int Try.underlying2 (hval 0 2 v0 rfl rfl) h0
  obtain ⟨a1, len1, cap1, rfl⟩ := okWide_slice Try.underlying22 (hval 1 22 v1 rfl rfl)
  have k1 := h1
  have lt1 : ∀ x ∈ p1, x.block < W.heap.size := by obtain ⟨m, hm⟩ := k1; exact DataW.trod_lt m _ _ _ hm
  obtain ⟨hlc, _, HH, hcells⟩ : len1 ≤ cap1 ∧ cap1 ≤ maxLen ∧ ∃ HH : Nat → Hd, ∀ i, i < cap1 → ∃ b off, a1 = some ⟨b, off, none⟩ ∧ HdAt W b (off + i * 4) (HH i) := by
    obtain ⟨fuel, hf⟩ := h1
    exact open_holders (by simpa [Value.cells] using hf)
  obtain ⟨a2, rfl, rfl, rfl, w2⟩ := open_int Try.underlying3 (hval 2 3 v2 rfl rfl) h2
  have k3 := h3
  have lt3 : ∀ x ∈ p3, x.block < W.heap.size := by obtain ⟨m, hm⟩ := k3; exact DataW.trod_lt m _ _ _ hm
  obtain ⟨h, rfl⟩ : ∃ h : Hd, v3 = .agg #[.int .i64 h.sh, .bool h.tr, .int .u8 h.ro, .int .i64 h.re] := open_hd (hval 3 43 v3 rfl rfl) h3
  clear hA0 hval0
  refine (walk a0 a1 len1 cap1 HH a2 h W w0 hlc hcells).mono fun e W' ⟨he, bel⟩ => ?_
  subst he
  exact ⟨_, rfl, _, _, _, [], _, [], hW', trodAll_mk1 (shut_bool Try.underlying4 _), (trodAll_cons_mk (shut_int Try.underlying2 w0) (trodAll_cons_mk (Below.trod laidOut (by kernel_rfl) (of_decide_eq_true (by kernel_rfl)) k1 bel lt1) (trodAll_cons_mk (shut_int Try.underlying3 w2) (trodAll_cons_mk (Below.trod laidOut (by kernel_rfl) (of_decide_eq_true (by kernel_rfl)) k3 bel lt3) trodAll_mk0)))), rfl, bel.frame _, fun h => by cases h⟩

theorem over : Rows.fnVotingSharesInsertOneHolderRow.holds Try.pinned (OpenSpec.ofChange Rows.fnVotingSharesInsertOneHolderSpec) :=
  OpenClaim.holds_of_wide 4 Try.f4 rfl rfl rfl rfl rfl rfl rfl ⟨rfl, rfl, rfl, rfl, rfl⟩ rfl rfl rfl rfl rfl (by kernel_rfl) Try.func4 (by kernel_rfl)
    (of_decide_eq_true (by kernel_rfl)) (by unfold Func.isWrapper; first | (rw [if_pos (by decide +kernel)]; kernel_rfl) | (rw [if_neg (by decide +kernel)]; exact ⟨rfl, rfl⟩))
    (fun os started H enc _ => lifted os started H enc)

theorem proved : Rows.FnVotingSharesInsertOneHolderSaid := over
end Go.Proofs.Qxb6634828a.fnVotingSharesInsertOneHolder

namespace Go.Proofs.Qxb6634828a
theorem fnVotingSharesInsertOneHolder_proved : Rows.FnVotingSharesInsertOneHolderSaid := fnVotingSharesInsertOneHolder.proved
end Go.Proofs.Qxb6634828a
