/- slices.AppendSeq onto a slice that the caller has made, over maps.Keys -/
import Derived.Test.Qxb6632526aIter
namespace Go.Proofs.Qxb6632526a
open Go.RowKit Go.Shelf Go.Maps

attribute [local go_sem] Oper.semAt_some

theorem Try.info9 : (Try.prog.info? 9).map (fun i => (i.zero, i.size, i.bytes)) = some (some (.string ⟨#[]⟩), 1, 16) := by kernel_rfl

theorem str_oneCell (x : ByteArray) : ∀ u ∈ [Value.string x], u.oneCell' = true := by
  intro u hu; simp at hu; subst hu; rfl

set_option maxRecDepth 100000 in
set_option maxHeartbeats 2000000 in
theorem appendSeq_in (n : Nat) (hn : 3 ≤ n) (base : Nat) (a0 : Option Addr) (l0 c0 : Nat) (ss0 : List ByteArray) (Bm : Nat) (m : Option Nat) (ks : List ByteArray) (w : World) (hbase : base ≤ w.heap.size)
    (hrow0 : w.ownsRow base 9 1 (.slice a0 l0 c0) ss0.length (ss0.map Value.string)) (hBm : Bm < w.heap.size) (hm : w.cell? ⟨Bm, 0, none⟩ = some (.map m)) (hk : KeysAre w m ks) (hN : ss0.length + ks.length ≤ 4194304) :
    CallsIn Fence.wide n Try.prog 24 #[.slice a0 l0 c0, .func (.func 31) #[] #[.pointer (some ⟨Bm, 0, none⟩)]] w fun e W' => ∃ v ss, e = .returned v ∧ ss.Perm ks ∧ W'.ownsRow base 9 1 v (ss0.length + ss.length) ((ss0 ++ ss).map Value.string) ∧ Below base w W' := by
  have h1 : 1 ≤ n := by omega
  obtain ⟨i0, hi, hz0, hz1, hz2⟩ := info_parts Try.info9
  refine callsIn_of_wp_marks Try.func24 rfl trivial ?_ rfl
  simp only [Try.ntmps24, List.size_toArray, List.length_cons, List.length_nil, Nat.reduceAdd, Nat.reduceSub, Array.replicate_succ, Array.replicate_zero, List.push_toArray, List.append_toArray, List.nil_append, List.cons_append]
  gi_wp2
  have bO := Boxed.new w 33 (.slice a0 l0 c0)
  have hB1 : Below w.heap.size w (w.alloc (.cells #[.slice a0 l0 c0] 33)) := (Below.refl _ w).alloc (Nat.le_refl _) _
  have hB0 : Below base w (w.alloc (.cells #[.slice a0 l0 c0] 33)) := hB1.mono hbase
  refine wpIn_rangeFunc_ownG rfl h1 (gf := 31) (lb := #[.pointer (some ⟨Bm, 0, none⟩)]) rfl trivial (enters_of Try.func31 (by kernel_rfl) rfl)
    (keys_stops (n - 1) (by omega) Bm m ks (w.alloc (.cells #[.slice a0 l0 c0] 33)) (by simp; omega) ((hB1.cell (p := ⟨Bm, 0, none⟩) hBm).trans hm) (hk.below hB1)) walksK_t walksK_b (Below.refl _ _) (fun _ => rfl)
    (fun pre W => (∃ v, Boxed W w.heap.size 33 v ∧ W.ownsRow base 9 1 v (ss0.length + pre.length) ((ss0 ++ pre).map Value.string) ∧ True) ∧ Below base w W)
    (fun _ _ _ => False)
    (OwnFrom.and (Own.from (holdsRow_own base w.heap.size 33 9 1 (fun pre => ss0.length + pre.length) (fun pre => (ss0 ++ pre).map Value.string) (fun _ _ => True)) _) (ownFrom_below hbase (by simp; omega)))
    (fun _ _ _ _ _ hs _ _ => hs)
    ⟨⟨_, bO, by simpa using hrow0.alloc _, trivial⟩, hB0⟩
    (fun x => { tmps := #[.slice a0 l0 c0, .func (.func 31) #[] #[.pointer (some ⟨Bm, 0, none⟩)], .pointer (some ⟨w.heap.size, 0, none⟩), undef, .slice none 0 0, .string x, .func (.func 31) #[] #[.pointer (some ⟨Bm, 0, none⟩)], .string x, undef, undef, undef, undef, undef], defers := [] }) ?assign ?body ?done ?stop
  case assign =>
    intro l x W K hK
    gi_wp2
    exact hK
  case body =>
    rintro l pre x W ⟨⟨v, hv, hrow, _⟩, hB⟩ hlt
    have hc := hv.cell
    have hlen : ss0.length + pre.length ≤ 4194304 := by omega
    gi_wp2_with (gi_at_builtin; refine wpListIn_append_own _ rfl _ _ 33 rfl base 9 i0 (.string ⟨#[]⟩) 1 16 Try.underlying33 hi hz0 hz1 hz2 rfl (by decide) _ _ _ rfl (hrow.alloc _) ⟨W.heap.size, 0, none⟩ 1 1 [.string x] rfl rfl (cell_one_new _ _ _) (str_oneCell x) (by unfold maxLen; omega) (by omega) (by have := hB.size; simp; omega) ?_; intro v' w1 hown' hgrow _; obtain ⟨g', cap', rfl⟩ := ownsRow_succ hown'; obtain ⟨hv1, hv2, hr2, hk2, hb2⟩ := hv.appended (by decide) hrow (Nat.le_trans hbase hB.size) hbase hown' hgrow; have hc1 := hv1.cell; have hf1 := hv1.frozen)
    exact ⟨hk2.from _, ⟨hk2.size, fun k o h hw => hk2.same k o h (Obj.not_cells_of_walk hw)⟩, ⟨_, hv2, by simpa [Nat.add_assoc] using hr2, trivial⟩, hB.trans hb2⟩
  case done =>
    rintro D ys W hD hS ⟨⟨v, hv, hrow, _⟩, hB⟩ hK
    have hc := hv.cell
    gi_wp2
    refine ⟨by simp, .inl ⟨_, _, rfl, run_takeDeferred hK, ?_⟩⟩
    exact ⟨_, results_tmp rfl _ _ _, v, ys, rfl, hS, ownsRow_putObj hrow _ hK rfl, hB.trans (belowK_b (w := w) hbase W D _ _ (by simp at hD; omega) hK rfl rfl)⟩
  case stop =>
    rintro D c pre W _ _ h _
    exact h.elim
end Go.Proofs.Qxb6632526a
