/- planPutRange -/
import Derived.Test.Qxb6632526aTop
namespace Go.Proofs.Qxb6632526a
open Go.RowKit Go.Maps

/-- the winners from lo up to k -/
def seg (L : List Ob) (lo k : Nat) : List Ob := wl (((flag L).take k).drop lo)

theorem seg_self (L : List Ob) (lo : Nat) : seg L lo lo = [] := by
  unfold seg
  rw [List.drop_of_length_le (by rw [List.length_take]; omega)]
  rfl

theorem seg_succ {L : List Ob} {lo k : Nat} (hk : k < L.length) (hlo : lo ≤ k) : seg L lo (k + 1) = if wins L[k] (L.drop (k + 1)) then seg L lo k ++ [L[k]] else seg L lo k := by
  unfold seg
  have hk' : k < (flag L).length := by rw [flag_length]; exact hk
  rw [List.take_succ_eq_append_getElem hk', List.drop_append_of_le_length (by rw [List.length_take]; omega), wl_append, flag_get hk]
  cases h : wins L[k] (L.drop (k + 1)) <;> simp [wl]

theorem seg_sub (L : List Ob) (lo k : Nat) : (seg L lo k).Sublist (wl (flag L)) := by
  unfold seg wl
  exact (((List.drop_sublist _ _).trans (List.take_sublist _ _)).filter _).map _

theorem seg_nodup (L : List Ob) (lo k : Nat) : ((seg L lo k).map (·.pl)).Nodup := ((seg_sub L lo k).map _).nodup (wl_nodup L)

theorem seg_mem {L : List Ob} {lo k : Nat} {x : Ob} (h : x ∈ seg L lo k) : x ∈ L := flag_fst (wl_mem ((seg_sub L lo k).subset h))

theorem seg_has {L : List Ob} {i lo hi : Nat} (h : i < L.length) (h1 : lo ≤ i) (h2 : i < hi) (hw : wins L[i] (L.drop (i + 1)) = true) : L[i] ∈ seg L lo hi := by
  refine mem_wl ?_
  have h3 := flag_get h
  rw [hw] at h3
  rw [← h3]
  refine List.mem_iff_getElem.2 ⟨i - lo, ?_, ?_⟩
  · rw [List.length_drop, List.length_take, flag_length]
    omega
  · rw [List.getElem_drop, List.getElem_take]
    congr 1
    omega

theorem seg_total (L : List Ob) (c : Nat) : (seg L 0 c).length + (seg L c L.length).length = (wl (flag L)).length := by
  unfold seg
  have ht : (flag L).take L.length = flag L := List.take_of_length_le (by rw [flag_length]; omega)
  rw [List.drop_zero, ht, ← List.length_append, ← wl_append, List.take_append_drop]

def RPost (w0 : World) (b : Nat) (L : List Ob) (lo hi : Nat) (e : Ending) (w' : World) : Prop := e = .returned (.tuple #[]) ∧ ∃ S, StateIs w' b S ∧ Rel w' b S (seg L lo hi) ∧ Below w0.heap.size w0 w'

set_option maxRecDepth 100000 in
set_option maxHeartbeats 4000000 in
theorem putRange (w0 : World) (b B Be : Nat) (s : SV) (L : List Ob) (lo hi : Nat) (w : World) (h : ObsAt w0 s L) (hf : ∀ x ∈ L, x.Fine w0 B) (he : ∀ i, (h : i < L.length) → w0.cell? ⟨Be, i, none⟩ = some (.bool (wins L[i] (L.drop (i + 1)))))
    (hb : Below w0.heap.size w0 w) (hlt : w0.heap.size ≤ b) (hst : StateIs w b []) (hL : L.length ≤ 1048576) (hlo : lo ≤ hi) (hhi : hi ≤ L.length) :
    Calls Try.prog 18 #[.map (some b), .slice s.a s.l s.c, .slice (some ⟨Be, 0, none⟩) L.length L.length, .int .i64 lo, .int .i64 hi] w (RPost w0 b L lo hi) := by
  obtain ⟨a, l, c⟩ := s
  have hl : l = L.length := h.len
  subst hl
  simp only
  have H : Hid (ObsAt w0 ⟨a, L.length, c⟩ L ∧ (∀ x ∈ L, x.Fine w0 B) ∧ (∀ i, (h : i < L.length) → w0.cell? ⟨Be, i, none⟩ = some (.bool (wins L[i] (L.drop (i + 1)))))) := ⟨h, hf, he⟩
  have HS : Hid (StateIs w b [] ∧ Below w0.heap.size w0 w) := ⟨hst, hb⟩
  clear h hf he hb hst
  go_enter Try.func18, Try.ntmps18
  go_wp2_with fail
  go_loopw [10] (fun i wr => ∃ (k : Nat) (S : List (Pl × Co)), lo ≤ k ∧ k ≤ hi ∧ i = .int .i64 k ∧ StateIs wr b S ∧ Rel wr b S (seg L lo k) ∧ Below w0.heap.size w0 wr) (fun i _ => hi - (intOf i).toNat)
  case atStart => exact ⟨lo, [], Nat.le_refl _, hlo, rfl, HS.out.1, by rw [seg_self]; exact Rel.nil, HS.out.2⟩
  case round =>
    obtain ⟨k, S, hk1, hk2, rfl, hst, hrl, hbw⟩ := hrel
    have G : Hid (StateIs wr b S ∧ Rel wr b S (seg L lo k) ∧ Below w0.heap.size w0 wr) := ⟨hst, hrl, hbw⟩
    clear hst hrl hbw
    by_cases hlt2 : k < hi
    · have hkL : k < L.length := by omega
      obtain ⟨b1, off, ha, N⟩ := (H.out.1.below G.out.2.2).cell k hkL
      simp only at ha
      subst ha
      have ce := (G.out.2.2.cell (World.block_lt_of_cell? w0 _ (H.out.2.2 k hkL))).trans (H.out.2.2 k hkL)
      cases hw : wins L[k] (L.drop (k + 1)) with
      | false =>
        rw [hw] at ce
        have hr2 : Rel wr b S (seg L lo (k + 1)) := by
          rw [seg_succ hkL hk1, hw]
          exact G.out.2.1
        have G2 : Hid (Rel wr b S (seg L lo (k + 1))) := hr2
        clear N hr2
        go_wp2
        go_roundw
        case rel => exact ⟨k + 1, S, by omega, by omega, by go_num, G.out.1, G2.out, G.out.2.2⟩
        case measure => simp [intOf]; omega
      | true =>
        rw [hw] at ce
        have hsg : seg L lo (k + 1) = seg L lo k ++ [L[k]] := by
          rw [seg_succ hkL hk1, hw]
          rfl
        have hnin : L[k].pl ∉ S.map (·.1) := by
          rw [G.out.2.1.places]
          have hn := seg_nodup L lo (k + 1)
          rw [hsg, List.map_append, List.nodup_append] at hn
          exact fun hm => hn.2.2 _ hm _ (by simp) rfl
        have HM : Hid (L[k].pl ∉ S.map (·.1) ∧ L[k].Fine wr B ∧ seg L lo (k + 1) = seg L lo k ++ [L[k]]) := ⟨hnin, (H.out.2.1 _ (List.getElem_mem hkL)).below G.out.2.2, hsg⟩
        clear hnin hw hsg
        generalize L[k] = x at *
        obtain ⟨c0, c1, c2, c3, c4, c5, c6, c7, c8⟩ := N
        go_wp2_with fail
        refine (putObj b B x S wr G.out.1 HM.out.2.1 HM.out.1).mono ?_
        rintro e w3 ⟨rfl, m, hst, hem, hg⟩
        have G3 : Hid (StateIs w3 b (S ++ [(x.pl, x.co m)]) ∧ Rel w3 b (S ++ [(x.pl, x.co m)]) (seg L lo (k + 1)) ∧ Below w0.heap.size w0 w3) :=
          ⟨hst, by rw [HM.out.2.2]; exact (G.out.2.1.turn fun _ _ e => e.kept hg).snoc hem, G.out.2.2.grown hg G.out.2.2.size (fun j e => by cases e; exact hlt)⟩
        clear hst hem hg
        go_wp2
        go_roundw
        case rel => exact ⟨k + 1, _, by omega, by omega, by go_num, G3.out⟩
        case measure => simp [intOf]; omega
    · obtain rfl : k = hi := by omega
      go_wp2
      first | go_end0 | refine bodyPost_ret (results_none rfl _ _ _) rfl ?_
      exact ⟨rfl, S, G.out⟩
end Go.Proofs.Qxb6632526a
