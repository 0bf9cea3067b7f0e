/- MAPS AS LISTS OF ENTRIES: what a block that holds a map is, entry by entry, in the order in which they were laid; and what each operation makes of it. No program in sight. -/
import Derived.Maps.Keyed
import Derived.Maps.RangeRun
import Derived.Maps.OwnSet
import Derived.Below
namespace Go.Proofs.Qxb6632526a
open Go.RowKit Go.MapKept
open Go.ChangeMaps (setBlock heap_setBlock_same heap_setBlock_other modify_eq_set)
open Go.Maps (Keyed)

theorem pw_turn' {α : Type} {R S : α → α → Prop} {l : List α} (h : l.Pairwise R) (f : ∀ a b, R a b → S a b) : l.Pairwise S := by
  induction l with
  | nil => exact List.Pairwise.nil
  | cons x r ih =>
    rw [List.pairwise_cons] at h ⊢
    exact ⟨fun y hy => f _ _ (h.1 y hy), ih h.2⟩

def kv (e : MapEntry) : Value × Value := (e.key, e.val)

/-- BLOCK b IS A MAP WITH THE ENTRIES L (keys of type k), in the order in which they were laid. -/
def MapIs (P : Program) (w : World) (k : TypeId) (b : Nat) (L : List (Value × Value)) : Prop :=
  ∃ es clock, w.heap[b]? = some (.map es clock) ∧ Stamped es clock ∧ (∀ x ∈ es.toList, ∃ l, keyOf P k x.key = some l) ∧ es.toList.map kv = L

section
variable {P : Program} {w : World} {k : TypeId} {b : Nat} {L : List (Value × Value)}

theorem MapIs.made (P : Program) (w : World) (k : TypeId) : MapIs P (w.alloc (.map #[] 0)) k w.heap.size [] :=
  ⟨#[], 0, (MapKept.heap_alloc w _).1, stamped_empty 0, by simp, rfl⟩

theorem MapIs.lt (h : MapIs P w k b L) : b < w.heap.size := by
  obtain ⟨es, clock, hb, _⟩ := h
  exact (Array.getElem?_eq_some_iff.1 hb).1

theorem MapIs.of_block {w' : World} (h : MapIs P w k b L) (e : w'.heap[b]? = w.heap[b]?) : MapIs P w' k b L := by
  obtain ⟨es, clock, hb, r⟩ := h
  exact ⟨es, clock, e.trans hb, r⟩

theorem MapIs.below {w' : World} (h : MapIs P w k b L) (hb : Below w.heap.size w w') : MapIs P w' k b L := h.of_block (hb.block _ h.lt)

theorem MapIs.belowB {w' : World} {B : Nat} (h : MapIs P w k b L) (hb : Below B w w') (hB : b < B) : MapIs P w' k b L := h.of_block (hb.block _ hB)

theorem MapIs.kept {w' : World} {row : Option Nat} (h : MapIs P w k b L) (hg : w.grownBy w' row) (hne : some b ≠ row) : MapIs P w' k b L := h.of_block (hg.block b h.lt hne)

theorem MapIs.alloc (h : MapIs P w k b L) (o : Obj) : MapIs P (w.alloc o) k b L := h.kept (World.grownBy_alloc w o none) (by simp)

theorem MapIs.nodup (h : MapIs P w k b L) : (L.map (·.1)).Nodup := by
  obtain ⟨es, clock, hb, hst, _, rfl⟩ := h
  have h3 := ((stamped_iff es clock).1 hst).2.2
  rw [List.map_map]
  exact List.pairwise_map.2 (pw_turn' h3 fun _ _ hne => hne)

theorem MapIs.keys (h : MapIs P w k b L) : ∀ p ∈ L, ∃ l, keyOf P k p.1 = some l := by
  obtain ⟨es, clock, hb, hst, hk, rfl⟩ := h
  intro p hp
  obtain ⟨x, hx, rfl⟩ := List.mem_map.1 hp
  exact hk x hx

/-- a list with no key twice: one entry a key -/
theorem val_unique {L : List (Value × Value)} (hn : (L.map (·.1)).Nodup) {a v v' : Value} (h : (a, v) ∈ L) (h' : (a, v') ∈ L) : v = v' := by
  induction L with
  | nil => simp at h
  | cons p L ih =>
    simp only [List.map_cons, List.nodup_cons] at hn
    rcases List.mem_cons.1 h with rfl | h1
    · rcases List.mem_cons.1 h' with e | h2
      · cases e; rfl
      · exact absurd (List.mem_map.2 ⟨_, h2, rfl⟩) hn.1
    · rcases List.mem_cons.1 h' with rfl | h2
      · exact absurd (List.mem_map.2 ⟨_, h1, rfl⟩) hn.1
      · exact ih hn.2 h1 h2

theorem set_same {α : Type} : ∀ (l : List α) (j : Nat) (a : α), l[j]? = some a → l.set j a = l
  | [], _, _, h => by simp at h
  | x :: l, 0, a, h => by simp at h; simp [h]
  | x :: l, j + 1, a, h => by simp at h ⊢; exact set_same l j a (by simp [h])

/-- a look-up that finds -/
theorem MapIs.look_hit {t e : TypeId} (h : MapIs P w k b L) (K : Keyed P k) (ht : P.underlying t = some (.map k e)) {key v : Value} (hm : (key, v) ∈ L) (c : Bool) :
    (Instr.lookup t (.map (some b)) key c).run P w = .ok (if c then .tuple #[v, .bool true] else v) w := by
  have hnd := h.nodup
  obtain ⟨l, hkey⟩ : ∃ l, keyOf P k key = some l := h.keys _ hm
  obtain ⟨es, clock, hb, hst, hk, rfl⟩ := h
  rcases K.find w hkey es.toList hk with ⟨_, h2⟩ | ⟨j, e0, h1, h2, h3⟩
  · obtain ⟨x, hx, e1⟩ := List.mem_map.1 hm
    exact absurd (congrArg Prod.fst e1) (h2 x hx)
  · have hm0 : (key, e0.val) ∈ es.toList.map kv := List.mem_map.2 ⟨e0, List.mem_of_getElem? h2, by simp [kv, h3]⟩
    obtain rfl := val_unique hnd hm hm0
    cases c <;> simp [Instr.lookup, run_underlying ht, MapKept.run_getObj_map hb, K.check w _ hkey, h1, Result.andThen]

/-- a look-up that does not find -/
theorem MapIs.look_miss {t e : TypeId} (h : MapIs P w k b L) (K : Keyed P k) (ht : P.underlying t = some (.map k e)) {z : Value} (hz : (zeroValue e).run P w = .ok z w) {key : Value} {l : Lit} (hkey : keyOf P k key = some l) (hm : key ∉ L.map (·.1)) (c : Bool) :
    (Instr.lookup t (.map (some b)) key c).run P w = .ok (if c then .tuple #[z, .bool false] else z) w := by
  obtain ⟨es, clock, hb, hst, hk, rfl⟩ := h
  rcases K.find w hkey es.toList hk with ⟨h1, _⟩ | ⟨j, e0, _, h2, h3⟩
  · cases c <;> simp [Instr.lookup, run_underlying ht, MapKept.run_getObj_map hb, K.check w _ hkey, h1, hz, Result.andThen]
  · exact absurd (by rw [List.map_map]; exact List.mem_map.2 ⟨e0, List.mem_of_getElem? h2, h3⟩) hm

/-- the nil map finds nothing -/
theorem look_nil {t e : TypeId} (w : World) (K : Keyed P k) (ht : P.underlying t = some (.map k e)) {z : Value} (hz : (zeroValue e).run P w = .ok z w) {key : Value} {l : Lit} (hkey : keyOf P k key = some l) (c : Bool) :
    (Instr.lookup t (.map none) key c).run P w = .ok (if c then .tuple #[z, .bool false] else z) w := by
  rcases K.find w hkey [] (by simp) with ⟨h1, _⟩ | ⟨j, e0, _, h2, _⟩
  · cases c <;> simp [Instr.lookup, run_underlying ht, K.check w _ hkey, h1, hz, Result.andThen]
  · simp at h2

theorem grownBy_setBlock {o : Obj} {es : Array MapEntry} {clock : Nat} (hb : w.heap[b]? = some (.map es clock)) : w.grownBy (setBlock w b o) (some b) :=
  ⟨rfl, rfl, rfl, by simp [setBlock], fun i _ hi => heap_setBlock_other hb _ (fun e => hi (by rw [e]))⟩

/-- a store at a new key -/
theorem MapIs.store_new {t e : TypeId} (h : MapIs P w k b L) (K : Keyed P k) (ht : P.underlying t = some (.map k e)) {key val : Value} {l : Lit} (hkey : keyOf P k key = some l) (hm : key ∉ L.map (·.1)) :
    ∃ w', (Instr.mapUpdate t (.map (some b)) key val).run P w = .ok () w' ∧ MapIs P w' k b (L ++ [(key, val)]) ∧ w.grownBy w' (some b) ∧ w'.heap.size = w.heap.size := by
  obtain ⟨es, clock, hb, hst, hk, rfl⟩ := h
  rcases K.find w hkey es.toList hk with ⟨h1, h2⟩ | ⟨j, e0, _, h2, h3⟩
  · refine ⟨setBlock w b (.map (es.push ⟨key, val, clock⟩) (clock + 1)), ?_, ⟨es.push ⟨key, val, clock⟩, clock + 1, heap_setBlock_same hb _, stamped_push hst h2, ?_, ?_⟩, grownBy_setBlock hb, by simp [setBlock]⟩
    · simp [Instr.mapUpdate, run_underlying ht, MapKept.run_getObj_map hb, K.check w false hkey, h1, MapKept.run_setObj_map _ hb, Result.andThen, setBlock]
    · intro x hx
      simp only [Array.toList_push, List.mem_append, List.mem_singleton] at hx
      rcases hx with hx | rfl
      · exact hk x hx
      · exact ⟨l, hkey⟩
    · simp [kv]
  · exact absurd (by rw [List.map_map]; exact List.mem_map.2 ⟨e0, List.mem_of_getElem? h2, h3⟩) hm

/-- a store at a key that is there -/
theorem MapIs.store_old {t e : TypeId} (h : MapIs P w k b L) (K : Keyed P k) (ht : P.underlying t = some (.map k e)) {key val : Value} (hm : key ∈ L.map (·.1)) :
    ∃ w' L', (Instr.mapUpdate t (.map (some b)) key val).run P w = .ok () w' ∧ MapIs P w' k b L' ∧ w.grownBy w' (some b) ∧ w'.heap.size = w.heap.size ∧ L'.map (·.1) = L.map (·.1) ∧ (key, val) ∈ L' ∧ ∀ p, p.1 ≠ key → (p ∈ L' ↔ p ∈ L) := by
  obtain ⟨p0, hp0, rfl⟩ := List.mem_map.1 hm
  obtain ⟨l, hkey⟩ := h.keys _ hp0
  have hnd := h.nodup
  obtain ⟨es, clock, hb, hst, hk, rfl⟩ := h
  rcases K.find w hkey es.toList hk with ⟨_, h2⟩ | ⟨j, e0, h1, h2, h3⟩
  · obtain ⟨x, hx, e1⟩ := List.mem_map.1 hp0
    exact absurd (congrArg Prod.fst e1) (h2 x hx)
  · have hj : es[j]? = some e0 := by simpa using h2
    have hjl : j < es.toList.length := (List.getElem?_eq_some_iff.1 h2).1
    have hlist : (es.modify j (fun e' => { e' with key := p0.1, val := val })).toList = es.toList.set j { e0 with key := p0.1, val := val } := by rw [Array.toList_modify, modify_eq_set _ _ _ _ h2]
    have hkeyf : ∀ e', es[j]? = some e' → ({ e' with key := p0.1, val := val } : MapEntry).key = e'.key := fun e' he' => by rw [hj] at he'; cases he'; exact h3.symm
    have hfst : (es.toList.set j { e0 with key := p0.1, val := val }).map (fun x => (kv x).1) = es.toList.map (fun x => (kv x).1) := by
      rw [List.map_set]
      have : (es.toList.map fun x => (kv x).1)[j]? = some p0.1 := by rw [List.getElem?_map, h2]; simp [kv, h3]
      exact set_same _ _ _ this
    refine ⟨setBlock w b (.map (es.modify j (fun e' => { e' with key := p0.1, val := val })) clock), (es.toList.set j { e0 with key := p0.1, val := val }).map kv, ?_, ⟨_, clock, heap_setBlock_same hb _, stamped_modify hst _ _ (fun _ _ => rfl) (fun e' _ he' => hkeyf e' he'), ?_, by rw [hlist]⟩, grownBy_setBlock hb, by simp [setBlock], ?_, ?_, ?_⟩
    · simp [Instr.mapUpdate, run_underlying ht, MapKept.run_getObj_map hb, K.check w false hkey, h1, hj, h3, K.stays w hkey, MapKept.run_setObj_map _ hb, Result.andThen, setBlock]
    · intro x hx
      rw [hlist] at hx
      rcases List.mem_or_eq_of_mem_set hx with hx' | rfl
      · exact hk x hx'
      · exact ⟨l, hkey⟩
    · rw [List.map_map, List.map_map]
      exact hfst
    · exact List.mem_map.2 ⟨{ e0 with key := p0.1, val := val }, List.mem_iff_getElem.2 ⟨j, by simpa using hjl, by simp⟩, rfl⟩
    · intro p hp
      constructor
      · intro h'
        obtain ⟨x, hx, rfl⟩ := List.mem_map.1 h'
        rcases List.mem_or_eq_of_mem_set hx with hx' | rfl
        · exact List.mem_map.2 ⟨x, hx', rfl⟩
        · exact absurd rfl hp
      · intro h'
        obtain ⟨x, hx, rfl⟩ := List.mem_map.1 h'
        obtain ⟨i, hi, rfl⟩ := List.getElem_of_mem hx
        refine List.mem_map.2 ⟨es.toList[i], List.mem_iff_getElem.2 ⟨i, by simpa using hi, ?_⟩, rfl⟩
        rw [List.getElem_set, if_neg]
        intro e
        subst e
        have : es.toList[j] = e0 := by rw [List.getElem?_eq_getElem hi] at h2; exact Option.some.inj h2
        rw [this] at hp
        exact hp h3
end
end Go.Proofs.Qxb6632526a
