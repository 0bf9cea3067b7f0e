/- the last occurrence of each name: plain laws; a store into a map, whichever key -/
import Derived.Test.Qxb6632526aCopy
namespace Go.Proofs.Qxb6632526a
open Go.RowKit Go.Maps

def lastEp : List Ep → ByteArray → Option Ep
  | [], _ => none
  | e :: r, n => match lastEp r n with
    | some x => some x
    | none => if e.n = n then some e else none

theorem lastEp_snoc (l : List Ep) (e : Ep) (n : ByteArray) : lastEp (l ++ [e]) n = if e.n = n then some e else lastEp l n := by
  induction l with
  | nil => simp [lastEp]
  | cons a l ih =>
    simp only [List.cons_append, lastEp, ih]
    split <;> rename_i h
    · by_cases hn : e.n = n
      · simp [hn] at h ⊢; exact h.symm
      · simp [hn] at h ⊢
        rw [h]
    · by_cases hn : e.n = n
      · simp [hn] at h
      · simp [hn] at h ⊢
        rw [h]

theorem lastEp_none {l : List Ep} {n : ByteArray} : lastEp l n = none ↔ ∀ e ∈ l, e.n ≠ n := by
  induction l with
  | nil => simp [lastEp]
  | cons a l ih =>
    simp only [lastEp, List.mem_cons, forall_eq_or_imp]
    split <;> rename_i h
    · constructor
      · intro h'; cases h'
      · intro h'
        rw [ih.2 h'.2] at h
        cases h
    · by_cases hn : a.n = n
      · simp [hn]
      · simp [hn]
        exact fun e he => ih.1 h e he

theorem lastEp_mem {l : List Ep} {n : ByteArray} {e : Ep} (h : lastEp l n = some e) : e ∈ l ∧ e.n = n := by
  induction l with
  | nil => simp [lastEp] at h
  | cons a l ih =>
    simp only [lastEp] at h
    split at h <;> rename_i h'
    · cases h
      exact ⟨List.mem_cons_of_mem _ (ih h').1, (ih h').2⟩
    · split at h
      · rename_i hn
        cases h
        exact ⟨List.mem_cons_self, hn⟩
      · cases h

/-- the map's entries are the last endpoints, one a name -/
def LastMap (es : List Ep) (LM : List (Value × Value)) : Prop := ∀ p, p ∈ LM ↔ ∃ n e, lastEp es n = some e ∧ p = (.string n, .slice e.b.a e.b.l e.b.c)

theorem lastMap_nil : LastMap [] [] := fun p => by simp [lastEp]

/-- a later endpoint laid over -/
theorem LastMap.over {es : List Ep} {LM LM' : List (Value × Value)} {e : Ep} (h : LastMap es LM) (h' : ∀ p, p ∈ LM' ↔ p = (.string e.n, .slice e.b.a e.b.l e.b.c) ∨ (p.1 ≠ .string e.n ∧ p ∈ LM)) : LastMap (es ++ [e]) LM' := by
  intro p
  rw [h' p, h p]
  constructor
  · rintro (rfl | ⟨hne, n, x, hx, rfl⟩)
    · exact ⟨e.n, e, by rw [lastEp_snoc, if_pos rfl], rfl⟩
    · refine ⟨n, x, ?_, rfl⟩
      rw [lastEp_snoc, if_neg (fun h => hne (by simp [h])), hx]
  · rintro ⟨n, x, hx, rfl⟩
    rw [lastEp_snoc] at hx
    split at hx
    · rename_i hn
      cases hx
      subst hn
      exact .inl rfl
    · rename_i hn
      exact .inr ⟨fun h => hn (by simpa using h.symm), n, x, hx, rfl⟩

/-- an earlier endpoint laid beside, its name not there yet -/
theorem LastMap.under {es : List Ep} {LM : List (Value × Value)} {e : Ep} (h : LastMap es LM) (hn : lastEp es e.n = none) : LastMap (e :: es) (LM ++ [(.string e.n, .slice e.b.a e.b.l e.b.c)]) := by
  intro p
  rw [List.mem_append, h p]
  constructor
  · rintro (⟨n, x, hx, rfl⟩ | h)
    · exact ⟨n, x, by simp [lastEp, hx], rfl⟩
    · simp at h
      subst h
      exact ⟨e.n, e, by simp [lastEp, hn], rfl⟩
  · rintro ⟨n, x, hx, rfl⟩
    simp only [lastEp] at hx
    split at hx <;> rename_i h'
    · cases hx
      exact .inl ⟨n, _, h', rfl⟩
    · split at hx
      · rename_i hne
        cases hx
        subst hne
        exact .inr (by simp)
      · cases hx

/-- .. its name there already -/
theorem LastMap.skip {es : List Ep} {LM : List (Value × Value)} {e : Ep} (h : LastMap es LM) {x : Ep} (hn : lastEp es e.n = some x) : LastMap (e :: es) LM := by
  intro p
  rw [h p]
  constructor
  · rintro ⟨n, y, hy, rfl⟩
    exact ⟨n, y, by simp [lastEp, hy], rfl⟩
  · rintro ⟨n, y, hy, rfl⟩
    simp only [lastEp] at hy
    split at hy <;> rename_i h'
    · cases hy
      exact ⟨n, _, h', rfl⟩
    · split at hy
      · rename_i hne
        rw [hne, h'] at hn
        cases hn
      · cases hy

theorem LastMap.keys {es : List Ep} {LM : List (Value × Value)} (h : LastMap es LM) : ∀ k, k ∈ LM.map (·.1) ↔ ∃ e ∈ es, k = .string e.n := by
  intro k
  constructor
  · intro hk
    obtain ⟨p, hp, rfl⟩ := List.mem_map.1 hk
    obtain ⟨n, e, he, rfl⟩ := (h p).1 hp
    exact ⟨e, (lastEp_mem he).1, by rw [(lastEp_mem he).2]⟩
  · rintro ⟨e, he, rfl⟩
    cases hl : lastEp es e.n with
    | none => exact absurd rfl (lastEp_none.1 hl e he)
    | some x => exact List.mem_map.2 ⟨_, (h _).2 ⟨_, _, hl, rfl⟩, rfl⟩

theorem nodup_length {α : Type} {l m : List α} (hl : l.Nodup) (hm : m.Nodup) (h : ∀ x, x ∈ l ↔ x ∈ m) : l.length = m.length := ((List.perm_ext_iff_of_nodup hl hm).2 h).length_eq

/-- two maps of the last endpoints: as many entries -/
theorem LastMap.length {es : List Ep} {LM LL : List (Value × Value)} (h : LastMap es LM) (h' : LastMap es LL) (hn : (LM.map (·.1)).Nodup) (hn' : (LL.map (·.1)).Nodup) : LM.length = LL.length := by
  have := nodup_length hn hn' fun k => by rw [h.keys, h'.keys]
  simpa using this

/-- a store, whichever key -/
theorem MapIs.store {P : Program} {w : World} {k : TypeId} {b : Nat} {L : List (Value × Value)} {t e : TypeId} (h : MapIs P w k b L) (K : Keyed P k) (ht : P.underlying t = some (.map k e)) {key val : Value} {l : Lit} (hkey : keyOf P k key = some l) :
    ∃ w' L', (Instr.mapUpdate t (.map (some b)) key val).run P w = .ok () w' ∧ MapIs P w' k b L' ∧ w.grownBy w' (some b) ∧ w'.heap.size = w.heap.size ∧ ∀ p, p ∈ L' ↔ p = (key, val) ∨ (p.1 ≠ key ∧ p ∈ L) := by
  by_cases hm : key ∈ L.map (·.1)
  · obtain ⟨w', L', hrun, his, hg, hs, hk, hin, hmem⟩ := MapIs.store_old (val := val) h K ht hm
    refine ⟨w', L', hrun, his, hg, hs, fun p => ?_⟩
    by_cases hp : p.1 = key
    · constructor
      · intro hpL
        obtain ⟨p1, p2⟩ := p
        simp only at hp
        subst hp
        exact .inl (by rw [val_unique his.nodup hpL hin])
      · rintro (rfl | ⟨hne, _⟩)
        · exact hin
        · exact absurd hp hne
    · rw [hmem p hp]
      constructor
      · exact fun h => .inr ⟨hp, h⟩
      · rintro (rfl | h)
        · exact absurd rfl hp
        · exact h.2
  · obtain ⟨w', hrun, his, hg, hs⟩ := MapIs.store_new (val := val) h K ht hkey hm
    refine ⟨w', _, hrun, his, hg, hs, fun p => ?_⟩
    rw [List.mem_append]
    constructor
    · rintro (hp | hp)
      · exact .inr ⟨fun e => hm (e ▸ List.mem_map.2 ⟨p, hp, rfl⟩), hp⟩
      · exact .inl (by simpa using hp)
    · rintro (rfl | hp)
      · exact .inr (by simp)
      · exact .inl hp.2
end Go.Proofs.Qxb6632526a
