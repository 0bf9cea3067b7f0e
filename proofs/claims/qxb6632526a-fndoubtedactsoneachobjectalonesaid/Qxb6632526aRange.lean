/- A RANGE OVER A MAP THAT STANDS STILL: what is still to come, as a list. No program in sight. -/
import Derived.Test.Qxb6632526aMap
namespace Go.Proofs.Qxb6632526a
open Go.RowKit Go.MapKept
open Go.ChangeMaps (setBlock)
open Go.Maps (Keyed)

/-- BLOCK b IS A MAP WITH THE ENTRIES L; BLOCK r AN ITERATOR OVER IT; todo IS STILL TO COME, in some order. -/
def RangeAt (P : Program) (w : World) (k : TypeId) (b r : Nat) (L todo : List (Value × Value)) : Prop :=
  ∃ es clock since seen c0, w.heap[b]? = some (.map es clock) ∧ Stamped es clock ∧ (∀ x ∈ es.toList, ∃ l, keyOf P k x.key = some l) ∧ es.toList.map kv = L ∧
    w.heap[r]? = some (.mapIter (some b) since seen c0) ∧ (∀ x ∈ es.toList, x.born < since) ∧ since ≤ c0 ∧ since ≤ clock ∧ ((leftOf es seen).toList.map kv).Perm todo

/-- how many are still to come, off the world -/
def rangeLeft (w : World) (b r : Nat) : Nat :=
  match w.heap[b]?, w.heap[r]? with
  | some (.map es _), some (.mapIter _ _ seen _) => (leftOf es seen).size
  | _, _ => 0

section
variable {P : Program} {w : World} {k : TypeId} {b r : Nat} {L todo : List (Value × Value)}

theorem RangeAt.map (h : RangeAt P w k b r L todo) : MapIs P w k b L := by
  obtain ⟨es, clock, _, _, _, hb, hst, hk, hL, _⟩ := h
  exact ⟨es, clock, hb, hst, hk, hL⟩

theorem RangeAt.left_eq (h : RangeAt P w k b r L todo) : rangeLeft w b r = todo.length := by
  obtain ⟨es, clock, since, seen, c0, hb, _, _, _, hr, _, _, _, hp⟩ := h
  simp only [rangeLeft, hb, hr]
  rw [← hp.length_eq]
  simp

theorem RangeAt.lt (h : RangeAt P w k b r L todo) : r < w.heap.size := by
  obtain ⟨es, clock, since, seen, c0, _, _, _, _, hr, _⟩ := h
  exact (Array.getElem?_eq_some_iff.1 hr).1

theorem RangeAt.ne (h : RangeAt P w k b r L todo) : r ≠ b := by
  obtain ⟨es, clock, since, seen, c0, hb, _, _, _, hr, _⟩ := h
  intro e
  rw [e, hb] at hr
  cases hr

theorem RangeAt.of_blocks {w' : World} (h : RangeAt P w k b r L todo) (e1 : w'.heap[b]? = w.heap[b]?) (e2 : w'.heap[r]? = w.heap[r]?) : RangeAt P w' k b r L todo := by
  obtain ⟨es, clock, since, seen, c0, hb, h1, h2, h3, hr, h4⟩ := h
  exact ⟨es, clock, since, seen, c0, e1.trans hb, h1, h2, h3, e2.trans hr, h4⟩

theorem RangeAt.below {w' : World} (h : RangeAt P w k b r L todo) (hb : Below w.heap.size w w') : RangeAt P w' k b r L todo :=
  h.of_blocks (hb.block _ h.map.lt) (hb.block _ h.lt)

/-- 'range m' -/
theorem MapIs.range {t e : TypeId} (h : MapIs P w k b L) (ht : P.underlying t = some (.map k e)) :
    ∃ w', (Instr.range t (.map (some b))).run P w = .ok (.pointer (some ⟨w.heap.size, 0, none⟩)) w' ∧ RangeAt P w' k b w.heap.size L L ∧ Below w.heap.size w w' ∧ w'.heap.size = w.heap.size + 1 := by
  have hlt := h.lt
  obtain ⟨es, clock, hb, hst, hk, rfl⟩ := h
  refine ⟨_, run_range_map w t k e b es clock ht hb, ⟨es, clock, clock, #[], clock, ((MapKept.heap_alloc w _).2 b hlt).trans hb, hst, hk, rfl, (MapKept.heap_alloc w _).1, ((stamped_iff es clock).1 hst).1, Nat.le_refl _, Nat.le_refl _, ?_⟩, (Below.refl _ _).alloc (Nat.le_refl _) _, by simp⟩
  have : (leftOf es #[]).toList = es.toList := by unfold leftOf; rw [Array.toList_filter]; exact List.filter_eq_self.2 (fun x _ => by simp)
  rw [this]

theorem perm_filter_ne {l : List MapEntry} (hn : (l.map (·.born)).Nodup) {e : MapEntry} (he : e ∈ l) : l.Perm (e :: l.filter fun x => !(x.born == e.born)) := by
  induction l with
  | nil => simp at he
  | cons x l ih =>
    simp only [List.map_cons, List.nodup_cons] at hn
    rcases List.mem_cons.1 he with rfl | he'
    · have hall : ∀ y ∈ l, (!(y.born == e.born)) = true := by
        intro y hy
        simp only [Bool.not_eq_true', beq_eq_false_iff_ne]
        intro h
        exact hn.1 (List.mem_map.2 ⟨y, hy, h⟩)
      rw [List.filter_cons, if_neg (by simp), List.filter_eq_self.2 hall]
    · have hne : x.born ≠ e.born := fun h => hn.1 (List.mem_map.2 ⟨e, he', h.symm⟩)
      rw [List.filter_cons, if_pos (by simp [hne])]
      exact ((ih hn.2 he').cons x).trans (List.Perm.swap e x _)

theorem left_push (es : Array MapEntry) (seen : Array Nat) (e : MapEntry) : (leftOf es (seen.push e.born)).toList = (leftOf es seen).toList.filter fun x => !(x.born == e.born) := by
  unfold leftOf
  rw [Array.toList_filter, Array.toList_filter, List.filter_filter]
  congr 1
  funext x
  rw [contains_push]
  cases seen.contains x.born <;> cases (x.born == e.born) <;> rfl

/-- THE STEP -/
theorem RangeAt.next (h : RangeAt P w k b r L todo) (ty : TypeId) :
    (todo = [] ∧ (Instr.next (.pointer (some ⟨r, 0, none⟩)) false ty).run P w = .ok (.tuple #[.bool false]) w) ∨
    ∃ p todo' w', todo.Perm (p :: todo') ∧ p ∈ L ∧ (Instr.next (.pointer (some ⟨r, 0, none⟩)) false ty).run P w = .ok (.tuple #[.bool true, p.1, p.2]) w' ∧
      RangeAt P w' k b r L todo' ∧ w.grownBy w' (some r) ∧ w'.heap.size = w.heap.size ∧ (Instr.entry (.pointer (some ⟨r, 0, none⟩))).run P w' = .ok (.tuple #[p.1, p.2]) w' := by
  have hne := h.ne
  have hrl := h.lt
  obtain ⟨es, clock, since, seen, c0, hb, hst, hk, rfl, hr, hold, hsc, hsk, hp⟩ := h
  have hst' := (stamped_iff es clock).1 hst
  rcases run_next_at (P := P) w ty r b since c0 seen es clock hr hb hold hsc with ⟨h0, hrun⟩ | ⟨e, he, w1, hal, hrun⟩
  · refine Or.inl ⟨?_, hrun⟩
    have : (leftOf es seen).toList = [] := by
      rw [← List.length_eq_zero_iff]; simpa using h0
    rw [this] at hp
    exact List.Perm.eq_nil hp.symm
  · have hmem := (mem_left he).1
    have hheap : w1.heap = w.heap := by rcases hal with rfl | rfl <;> rfl
    have hnodl : ((leftOf es seen).toList.map (·.born)).Nodup := by
      unfold leftOf
      rw [Array.toList_filter]
      exact List.Nodup.sublist (List.Sublist.map _ List.filter_sublist) hst'.2.1
    have hother : ∀ i, i ≠ r → (setBlock w1 r (.mapIter (some b) since (seen.push e.born) clock)).heap[i]? = w.heap[i]? := by
      intro i hi
      show (w1.heap.setIfInBounds r _)[i]? = _
      rw [hheap, Array.getElem?_setIfInBounds, if_neg (fun h => hi h.symm)]
    have hsame : (setBlock w1 r (.mapIter (some b) since (seen.push e.born) clock)).heap[r]? = some (.mapIter (some b) since (seen.push e.born) clock) := by
      show (w1.heap.setIfInBounds r _)[r]? = _
      rw [hheap, Array.getElem?_setIfInBounds, if_pos rfl, if_pos hrl]
    refine Or.inr ⟨kv e, (leftOf es (seen.push e.born)).toList.map kv, _, ?_, List.mem_map.2 ⟨e, hmem, rfl⟩, hrun, ?_, ?_, ?_, ?_⟩
    · refine hp.symm.trans ?_
      rw [left_push]
      exact (perm_filter_ne hnodl he).map kv
    · exact ⟨es, clock, since, seen.push e.born, clock, (hother b (fun h => hne h.symm)).trans hb, hst, hk, rfl, hsame, hold, hsk, hsk, List.Perm.refl _⟩
    · refine ⟨?_, ?_, ?_, ?_, fun i _ hi => hother i (fun e => hi (by rw [e]))⟩
      · rcases hal with rfl | rfl <;> rfl
      · rcases hal with rfl | rfl <;> rfl
      · rcases hal with rfl | rfl <;> rfl
      · show w.heap.size ≤ (w1.heap.setIfInBounds r _).size
        rw [hheap]; simp
    · show (w1.heap.setIfInBounds r _).size = w.heap.size
      rw [hheap]; simp
    · exact run_entry_at _ r b since seen es clock e hsame ((hother b (fun h => hne h.symm)).trans hb) hmem hst'.2.1
end
end Go.Proofs.Qxb6632526a
