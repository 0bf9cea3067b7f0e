/- SORTED LISTS OF TEXTS AS SETS: no Go in sight -/
import Derived.Lib.SlicesCompact
import Derived.Sort.Walk0
namespace Go.Proofs.Qxb6632526a
open Go.Lib

abbrev Txt := List UInt8

theorem pw_turn {α : Type} {R S : α → α → Prop} {l : List α} (h : l.Pairwise R) (f : ∀ a b, R a b → S a b) : l.Pairwise S := by
  induction l with
  | nil => exact List.Pairwise.nil
  | cons x r ih =>
    rw [List.pairwise_cons] at h ⊢
    exact ⟨fun y hy => f _ _ (h.1 y hy), ih h.2⟩

def srt (ss : List Txt) : List Txt := ss.mergeSort fun x y => decide (x ≤ y)

theorem srt_perm (ss : List Txt) : (srt ss).Perm ss := List.mergeSort_perm _ _

theorem srt_sorted (ss : List Txt) : (srt ss).Pairwise (· ≤ ·) := by
  have := List.pairwise_mergeSort (le := fun x y : Txt => decide (x ≤ y)) (fun a b c h k => by simp at *; exact List.le_trans h k) (fun a b => by simp; exact List.le_total a b) ss
  exact pw_turn this fun _ _ h => by simpa using h

theorem lt_of_le_ne {a b : Txt} (h : a ≤ b) (n : a ≠ b) : a < b := by
  apply Classical.byContradiction
  intro k
  exact n (List.le_antisymm h (List.not_lt.1 k))

theorem le_lt {a b c : Txt} (h : a ≤ b) (k : b < c) : a < c := by
  apply Classical.byContradiction
  intro n
  exact List.lt_irrefl c (by
    have h2 : c ≤ a := List.not_lt.1 n
    have h3 : c ≤ b := List.le_trans h2 h
    exact absurd k (List.not_lt.2 h3))

theorem le_refl' (a : Txt) : a ≤ a := List.not_lt.1 (List.lt_irrefl a)

theorem sorted_get {ss : List Txt} (hs : ss.Pairwise (· ≤ ·)) {i : Nat} (h : i + 1 < ss.length) : ss[i] ≤ ss[i + 1] :=
  List.pairwise_iff_getElem.1 hs i (i + 1) (by omega) h (by omega)

theorem compact_upto {ss : List Txt} (hs : ss.Pairwise (· ≤ ·)) : ∀ m, m ≤ ss.length → (compactUpTo ss.toArray m).Pairwise (· < ·) ∧ (∀ x, x ∈ compactUpTo ss.toArray m ↔ x ∈ ss.take m) ∧ ∀ x ∈ compactUpTo ss.toArray m, ∀ h : m - 1 < ss.length, x ≤ ss[m - 1]
  | 0, _ => by simp [compactUpTo]
  | m + 1, hm => by
    obtain ⟨h1, h2, h3⟩ := compact_upto hs m (by omega)
    have hget : ss.toArray[m]! = ss[m] := by simp [getElem!_pos, show m < ss.length by omega]
    have htake : ss.take (m + 1) = ss.take m ++ [ss[m]] := List.take_succ_eq_append_getElem (by omega)
    rw [compactUpTo_succ, htake]
    by_cases hk : keeps ss.toArray m = true
    · rw [if_pos hk, hget]
      have hlt : ∀ x ∈ compactUpTo ss.toArray m, x < ss[m] := by
        intro x hx
        by_cases h0 : m = 0
        · subst h0
          have := (h2 x).1 hx
          simp at this
        · have hle := h3 x hx (by omega)
          have hg1 : ss.toArray[m - 1]! = ss[m - 1] := by simp [getElem!_pos, show m - 1 < ss.length by omega]
          have hne : ss[m] ≠ ss[m - 1] := by
            intro e
            have : keeps ss.toArray m = false := keeps_neg (by omega) (by rw [hget, hg1, e])
            rw [this] at hk
            cases hk
          have hle2 : ss[m - 1] ≤ ss[m] := by
            have := sorted_get hs (i := m - 1) (by omega)
            simpa [show m - 1 + 1 = m by omega] using this
          exact le_lt hle (lt_of_le_ne hle2 (Ne.symm hne))
      refine ⟨List.pairwise_append.2 ⟨h1, by simp, fun a ha b hb => by simp at hb; subst hb; exact hlt a ha⟩, fun x => by rw [List.mem_append, List.mem_append, h2 x], fun x hx h => ?_⟩
      rcases List.mem_append.1 hx with hx | hx
      · have := hlt x hx
        simp only [Nat.add_sub_cancel]
        exact List.not_lt.1 fun k => List.lt_irrefl _ (List.lt_trans this k)
      · simp at hx
        subst hx
        simp only [Nat.add_sub_cancel]
        exact le_refl' _
    · rw [if_neg hk, List.append_nil]
      have h0 : m ≠ 0 := by
        intro e
        subst e
        exact hk (by simp [keeps])
      have hg1 : ss.toArray[m - 1]! = ss[m - 1] := by simp [getElem!_pos, show m - 1 < ss.length by omega]
      have heq : ss[m] = ss[m - 1] := by
        apply Classical.byContradiction
        intro hne
        exact hk (keeps_pos (by rw [hget, hg1]; exact hne))
      refine ⟨h1, fun x => ?_, fun x hx h => ?_⟩
      · rw [h2 x]
        constructor
        · intro h
          exact List.mem_append.2 (.inl h)
        · intro h
          rcases List.mem_append.1 h with h | h
          · exact h
          · simp at h
            subst h
            rw [heq]
            exact List.mem_take_iff_getElem.2 ⟨m - 1, by omega, rfl⟩
      · have := h3 x hx (by omega)
        simp only [Nat.add_sub_cancel]
        rw [heq]
        exact this

/-- sorted, each once -/
def dd (ss : List Txt) : List Txt := compact (srt ss)

theorem dd_sorted (ss : List Txt) : (dd ss).Pairwise (· < ·) := (compact_upto (srt_sorted ss) _ (Nat.le_refl _)).1

theorem dd_mem (ss : List Txt) (x : Txt) : x ∈ dd ss ↔ x ∈ ss := by
  have h := (compact_upto (srt_sorted ss) _ (Nat.le_refl _)).2.1 x
  rw [List.take_of_length_le (Nat.le_refl _)] at h
  exact h.trans (srt_perm ss).mem_iff

theorem strict_unique : ∀ {l m : List Txt}, l.Pairwise (· < ·) → m.Pairwise (· < ·) → (∀ x, x ∈ l ↔ x ∈ m) → l = m
  | [], [], _, _, _ => rfl
  | [], b :: m, _, _, h => by have := (h b).2 (by simp); simp at this
  | a :: l, [], _, _, h => by have := (h a).1 (by simp); simp at this
  | a :: l, b :: m, hl, hm, h => by
    obtain ⟨hl1, hl2⟩ := List.pairwise_cons.1 hl
    obtain ⟨hm1, hm2⟩ := List.pairwise_cons.1 hm
    have hab : a = b := by
      apply Classical.byContradiction
      intro n
      have h1 : a ∈ m := by
        rcases List.mem_cons.1 ((h a).1 (by simp)) with e | e
        · exact absurd e n
        · exact e
      have h2 : b ∈ l := by
        rcases List.mem_cons.1 ((h b).2 (by simp)) with e | e
        · exact absurd e.symm n
        · exact e
      exact List.lt_irrefl a (List.lt_trans (hl1 b h2) (hm1 a h1))
    subst hab
    refine congrArg (a :: ·) (strict_unique hl2 hm2 fun x => ?_)
    constructor
    · intro hx
      rcases List.mem_cons.1 ((h x).1 (List.mem_cons_of_mem _ hx)) with e | e
      · subst e
        exact absurd (hl1 x hx) (List.lt_irrefl x)
      · exact e
    · intro hx
      rcases List.mem_cons.1 ((h x).2 (List.mem_cons_of_mem _ hx)) with e | e
      · subst e
        exact absurd (hm1 x hx) (List.lt_irrefl x)
      · exact e

/-- doing it again with names that are there already changes nothing -/
theorem dd_again {l ks : List Txt} (hl : l.Pairwise (· < ·)) (hk : ∀ x ∈ ks, x ∈ l) : dd (l ++ ks) = l :=
  strict_unique (dd_sorted _) hl fun x => by
    rw [dd_mem, List.mem_append]
    exact ⟨fun h => h.elim id (hk x), .inl⟩

theorem dd_perm {a b : List Txt} (h : ∀ x, x ∈ a ↔ x ∈ b) : dd a = dd b :=
  strict_unique (dd_sorted _) (dd_sorted _) fun x => by rw [dd_mem, dd_mem]; exact h x
end Go.Proofs.Qxb6632526a
