/- which objects win; what a State built of them is -/
import Derived.Test.Qxb6632526aPut
namespace Go.Proofs.Qxb6632526a
open Go.RowKit Go.Maps

def samePl (x y : Pl) : Bool := decide (x.p = y.p ∧ x.q = y.q ∧ x.n = y.n)

theorem samePl_iff {x y : Pl} : samePl x y = true ↔ x = y := by
  obtain ⟨p, q, n⟩ := x
  obtain ⟨p', q', n'⟩ := y
  simp [samePl]

/-- an object wins if no later one lies at its place -/
def wins (x : Ob) (r : List Ob) : Bool := !(r.any fun y => samePl y.pl x.pl)

def flag : List Ob → List (Ob × Bool)
  | [] => []
  | x :: r => (x, wins x r) :: flag r

theorem flag_length (L : List Ob) : (flag L).length = L.length := by
  induction L with
  | nil => rfl
  | cons x r ih => simp [flag, ih]

theorem flag_drop (L : List Ob) (k : Nat) : (flag L).drop k = flag (L.drop k) := by
  induction L generalizing k with
  | nil => simp [flag]
  | cons x r ih => cases k <;> simp [flag, ih]

theorem flag_get {L : List Ob} {i : Nat} (h : i < L.length) : (flag L)[i]'(by rw [flag_length]; exact h) = (L[i], wins L[i] (L.drop (i + 1))) := by
  induction L generalizing i with
  | nil => simp at h
  | cons x r ih =>
    cases i with
    | zero => simp [flag]
    | succ i => simpa [flag] using ih (by simpa using h)

/-- the winners -/
def wl (F : List (Ob × Bool)) : List Ob := (F.filter (·.2)).map (·.1)

theorem wl_append (A B : List (Ob × Bool)) : wl (A ++ B) = wl A ++ wl B := by simp [wl]

theorem wins_false {x : Ob} {r : List Ob} : wins x r = false ↔ ∃ y ∈ r, y.pl = x.pl := by
  simp [wins, samePl_iff]

theorem wins_true {x : Ob} {r : List Ob} : wins x r = true ↔ ∀ y ∈ r, y.pl ≠ x.pl := by
  simp [wins, ← samePl_iff]

theorem wl_place (L : List Ob) (q : Pl) : (∃ x ∈ wl (flag L), x.pl = q) ↔ ∃ x ∈ L, x.pl = q := by
  induction L with
  | nil => simp [flag, wl]
  | cons a r ih =>
    have hcons : wl (flag (a :: r)) = (if wins a r then [a] else []) ++ wl (flag r) := by
      cases h : wins a r <;> simp [flag, wl, h]
    rw [hcons]
    constructor
    · rintro ⟨x, hx, rfl⟩
      rcases List.mem_append.1 hx with h | h
      · split at h
        · simp at h
          subst h
          exact ⟨x, List.mem_cons_self, rfl⟩
        · simp at h
      · obtain ⟨y, hy, e⟩ := ih.1 ⟨x, h, rfl⟩
        exact ⟨y, List.mem_cons_of_mem _ hy, e⟩
    · rintro ⟨x, hx, rfl⟩
      by_cases hr : ∃ y ∈ r, y.pl = x.pl
      · obtain ⟨y, hy, e⟩ := ih.2 hr
        exact ⟨y, List.mem_append.2 (.inr hy), e⟩
      · rcases List.mem_cons.1 hx with rfl | h
        · refine ⟨x, List.mem_append.2 (.inl ?_), rfl⟩
          have : wins x r = true := wins_true.2 fun y hy e => hr ⟨y, hy, e⟩
          simp [this]
        · exact absurd ⟨x, h, rfl⟩ hr

theorem wl_cons (x : Ob) (r : List Ob) : wl (flag (x :: r)) = if wins x r then x :: wl (flag r) else wl (flag r) := by
  cases h : wins x r <;> simp [flag, wl, h]

theorem wl_mem {F : List (Ob × Bool)} {x : Ob} (h : x ∈ wl F) : (x, true) ∈ F := by
  obtain ⟨p, hp, rfl⟩ := List.mem_map.1 h
  obtain ⟨h1, h2⟩ := List.mem_filter.1 hp
  obtain ⟨y, b⟩ := p
  simp only at h2
  subst h2
  exact h1

theorem mem_wl {F : List (Ob × Bool)} {x : Ob} (h : (x, true) ∈ F) : x ∈ wl F := List.mem_map.2 ⟨_, List.mem_filter.2 ⟨h, rfl⟩, rfl⟩

theorem flag_fst {L : List Ob} {p : Ob × Bool} (h : p ∈ flag L) : p.1 ∈ L := by
  induction L with
  | nil => simp [flag] at h
  | cons x r ih =>
    rcases List.mem_cons.1 h with rfl | h
    · exact List.mem_cons_self
    · exact List.mem_cons_of_mem _ (ih h)

/-- no two winners lie at one place -/
theorem wl_nodup (L : List Ob) : ((wl (flag L)).map (·.pl)).Nodup := by
  induction L with
  | nil => simp [flag, wl]
  | cons x r ih =>
    rw [wl_cons]
    split
    · rename_i h
      rw [List.map_cons, List.nodup_cons]
      refine ⟨fun hm => ?_, ih⟩
      obtain ⟨y, hy, e⟩ := List.mem_map.1 hm
      exact wins_true.1 h y (flag_fst (wl_mem hy)) e
    · exact ih

/-- the State's entries, one by one, are the objects X as they were laid -/
def Rel (w : World) (b : Nat) : List (Pl × Co) → List Ob → Prop
  | [], [] => True
  | p :: S, x :: X => (∃ m, p = (x.pl, x.co m) ∧ EndMap w b m x) ∧ Rel w b S X
  | [], _ :: _ => False
  | _ :: _, [] => False

theorem Rel.nil {w : World} {b : Nat} : Rel w b [] [] := trivial

theorem Rel.cons {w : World} {b : Nat} {x : Ob} {m : Option Nat} {S : List (Pl × Co)} {X : List Ob} (he : EndMap w b m x) (h : Rel w b S X) : Rel w b ((x.pl, x.co m) :: S) (x :: X) := ⟨⟨m, rfl, he⟩, h⟩

theorem Rel.snoc {w : World} {b : Nat} {S : List (Pl × Co)} {X : List Ob} (h : Rel w b S X) {x : Ob} {m : Option Nat} (he : EndMap w b m x) : Rel w b (S ++ [(x.pl, x.co m)]) (X ++ [x]) := by
  induction S generalizing X with
  | nil =>
    cases X with
    | nil => exact Rel.cons he Rel.nil
    | cons _ _ => exact h.elim
  | cons p S ih =>
    cases X with
    | nil => exact h.elim
    | cons y X =>
      obtain ⟨h1, h2⟩ := h
      exact ⟨h1, ih h2⟩

theorem Rel.turn {w w' : World} {b : Nat} {S : List (Pl × Co)} {X : List Ob} (h : Rel w b S X) (f : ∀ m x, EndMap w b m x → EndMap w' b m x) : Rel w' b S X := by
  induction S generalizing X with
  | nil =>
    cases X with
    | nil => exact Rel.nil
    | cons _ _ => exact h.elim
  | cons p S ih =>
    cases X with
    | nil => exact h.elim
    | cons y X =>
      obtain ⟨⟨m, e, he⟩, h2⟩ := h
      exact ⟨⟨m, e, f _ _ he⟩, ih h2⟩

theorem Rel.length {w : World} {b : Nat} {S : List (Pl × Co)} {X : List Ob} (h : Rel w b S X) : S.length = X.length := by
  induction S generalizing X with
  | nil =>
    cases X with
    | nil => rfl
    | cons _ _ => exact h.elim
  | cons p S ih =>
    cases X with
    | nil => exact h.elim
    | cons y X =>
      obtain ⟨_, h2⟩ := h
      simp [ih h2]

theorem Rel.mem {w : World} {b : Nat} {S : List (Pl × Co)} {X : List Ob} (h : Rel w b S X) {p : Pl × Co} (hp : p ∈ S) : ∃ x ∈ X, ∃ m, p = (x.pl, x.co m) ∧ EndMap w b m x := by
  induction S generalizing X with
  | nil => simp at hp
  | cons r S ih =>
    cases X with
    | nil => exact h.elim
    | cons y X =>
      obtain ⟨⟨m, e, he⟩, h2⟩ := h
      rcases List.mem_cons.1 hp with h3 | h3
      · exact ⟨y, List.mem_cons_self, m, h3.trans e, he⟩
      · obtain ⟨x, hx, r⟩ := ih h2 h3
        exact ⟨x, List.mem_cons_of_mem _ hx, r⟩

theorem Rel.of_mem {w : World} {b : Nat} {S : List (Pl × Co)} {X : List Ob} (h : Rel w b S X) {x : Ob} (hx : x ∈ X) : ∃ m, (x.pl, x.co m) ∈ S ∧ EndMap w b m x := by
  induction S generalizing X with
  | nil =>
    cases X with
    | nil => simp at hx
    | cons _ _ => exact h.elim
  | cons r S ih =>
    cases X with
    | nil => exact h.elim
    | cons y X =>
      obtain ⟨⟨m, rfl, he⟩, h2⟩ := h
      rcases List.mem_cons.1 hx with rfl | h3
      · exact ⟨m, List.mem_cons_self, he⟩
      · obtain ⟨m', hm, r⟩ := ih h2 h3
        exact ⟨m', List.mem_cons_of_mem _ hm, r⟩

theorem Rel.places {w : World} {b : Nat} {S : List (Pl × Co)} {X : List Ob} (h : Rel w b S X) : S.map (·.1) = X.map (·.pl) := by
  induction S generalizing X with
  | nil =>
    cases X with
    | nil => rfl
    | cons _ _ => exact h.elim
  | cons r S ih =>
    cases X with
    | nil => exact h.elim
    | cons y X =>
      obtain ⟨⟨m, rfl, _⟩, h2⟩ := h
      simp [ih h2]

theorem MapIs.set {P : Program} {w : World} {k : TypeId} {b B n : Nat} {L : List (Value × Value)} (h : MapIs P w k b L) (hr : Row w B n) (i : Nat) (v : Value) : MapIs P (w.setCell ⟨B, i, none⟩ v) k b L := by
  refine h.of_block (heap_setCell_other _ _ _ _ ?_)
  rintro rfl
  obtain ⟨es, clock, hb, _⟩ := h
  obtain ⟨cur, t, hb', _⟩ := hr
  rw [hb] at hb'
  cases hb'

theorem EndMap.set {w : World} {b B n : Nat} {m : Option Nat} {x : Ob} (h : EndMap w b m x) (hr : Row w B n) (i : Nat) (v : Value) : EndMap (w.setCell ⟨B, i, none⟩ v) b m x :=
  or_turn h id fun ⟨bm, LM, h1, h2, h3, h4, h5⟩ => ⟨bm, LM, h1, h2, h3, h4.set hr i v, h5⟩

theorem Row.kept {w w' : World} {B n b : Nat} {P : Program} {k : TypeId} {L : List (Value × Value)} (h : Row w B n) (hg : w.grownBy w' (some b)) (hm : MapIs P w k b L) : Row w' B n := by
  have hl := h.lt
  have hne : B ≠ b := by
    rintro rfl
    obtain ⟨es, clock, hb, _⟩ := hm
    obtain ⟨cur, t, hb', _⟩ := h
    rw [hb] at hb'
    cases hb'
  obtain ⟨cur, t, hb, hs⟩ := h
  exact ⟨cur, t, (hg.block B hl (by simpa using hne)).trans hb, hs⟩
end Go.Proofs.Qxb6632526a
