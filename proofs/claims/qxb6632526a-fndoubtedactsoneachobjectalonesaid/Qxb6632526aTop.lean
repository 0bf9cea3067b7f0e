/- what stands when the law's loop begins -/
import Derived.Test.Qxb6632526aUnion
namespace Go.Proofs.Qxb6632526a
open Go.RowKit Go.Maps

theorem chosen {α β : Type} {p : α → β → Prop} (h : ∀ a, ∃ b, p a b) : ∃ f : α → β, ∀ a, p a (f a) := ⟨fun a => Classical.choose (h a), fun a => Classical.choose_spec (h a)⟩

theorem nodup_map_inj {α β : Type} {f : α → β} : ∀ {l : List α}, (l.map f).Nodup → ∀ {a b : α}, a ∈ l → b ∈ l → f a = f b → a = b
  | [], _, _, _, ha, _, _ => by simp at ha
  | x :: l, hn, a, b, ha, hb, e => by
    simp only [List.map_cons, List.nodup_cons] at hn
    rcases List.mem_cons.1 ha with h1 | h1
    · rcases List.mem_cons.1 hb with h2 | h2
      · rw [h1, h2]
      · subst h1
        exact absurd (List.mem_map.2 ⟨b, h2, e.symm⟩) hn.1
    · rcases List.mem_cons.1 hb with h2 | h2
      · subst h2
        exact absurd (List.mem_map.2 ⟨a, h1, e⟩) hn.1
      · exact nodup_map_inj hn.2 h1 h2 e

theorem nodup_le {α : Type} : ∀ {l m : List α}, l.Nodup → (∀ x ∈ l, x ∈ m) → l.length ≤ m.length
  | [], _, _, _ => Nat.zero_le _
  | a :: l, m, hn, h => by
    simp only [List.nodup_cons] at hn
    obtain ⟨s, t, rfl⟩ := List.append_of_mem (h a List.mem_cons_self)
    have := nodup_le (l := l) (m := s ++ t) hn.2 fun x hx => by
      have hm := h x (List.mem_cons_of_mem _ hx)
      simp only [List.mem_append, List.mem_cons] at hm ⊢
      rcases hm with h1 | rfl | h1
      · exact .inl h1
      · exact absurd hx hn.1
      · exact .inr h1
    simp at this ⊢
    omega

/-- the endpoints' names as maps.Keys sees them -/
theorem EndMap.keysAre {w : World} {b : Nat} {m : Option Nat} {x : Ob} (h : EndMap w b m x) : ∃ ks, KeysAre w m ks ∧ ks.length ≤ x.es.length ∧ ∀ n, n ∈ ks ↔ ∃ e ∈ x.es, e.n = n := by
  rcases h with ⟨rfl, _, hes⟩ | ⟨bm, LM, rfl, _, _, hm, hl⟩
  · exact ⟨[], .inl ⟨rfl, rfl⟩, Nat.zero_le _, fun n => by simp [hes]⟩
  · have hk : LM.map (·.1) = (LM.map fun p => strOf p.1).map Value.string := by
      rw [List.map_map]
      refine List.map_congr_left fun p hp => ?_
      obtain ⟨n, e, _, rfl⟩ := (hl p).1 hp
      rfl
    refine ⟨LM.map fun p => strOf p.1, .inr ⟨bm, LM, rfl, hm, hk⟩, ?_, fun n => ?_⟩
    · have := nodup_le (l := LM.map (·.1)) (m := x.es.map fun e => Value.string e.n) hm.nodup fun k hkm => by
        obtain ⟨e, he, e2⟩ := (hl.keys k).1 hkm
        exact List.mem_map.2 ⟨e, he, e2.symm⟩
      simpa using this
    · have h1 : n ∈ (LM.map fun p => strOf p.1) ↔ Value.string n ∈ LM.map (·.1) := by
        rw [hk]
        simp
      rw [h1, hl.keys]
      constructor
      · rintro ⟨e, he, e2⟩
        exact ⟨e, he, by simpa using e2.symm⟩
      · rintro ⟨e, he, rfl⟩
        exact ⟨e, he, rfl⟩

structure Uni (ts : List ByteArray) (x : Ob) : Prop where
  up : (ts.map txt).Pairwise (· < ·)
  ds : ∀ y ∈ x.ds, y ∈ ts
  es : ∀ y ∈ x.es, y.n ∈ ts
  all : ∀ y ∈ ts, y ∈ x.ds ∨ ∃ e ∈ x.es, e.n = y
  len : ts.length ≤ 4194304

/-- a winner's entry in the State and in what Doubted made of it -/
structure Won (w : World) (b : Nat) (S S1 : List (Pl × Co)) (x : Ob) (m : Option Nat) (v1 : SV) (ts : List ByteArray) : Prop where
  i0 : (x.pl, x.co m) ∈ S
  i1 : (x.pl, (x.co m).doubt v1) ∈ S1
  e : EndMap w b m x
  s1 : StrsAt w v1 ts
  u : Uni ts x

theorem Won.below {w w' : World} {b : Nat} {S S1 : List (Pl × Co)} {x : Ob} {m : Option Nat} {v1 : SV} {ts : List ByteArray} (h : Won w b S S1 x m v1 ts) (hb : Below w.heap.size w w') : Won w' b S S1 x m v1 ts :=
  ⟨h.i0, h.i1, h.e.below hb, h.s1.below hb, h.u⟩

def DPost1 (w : World) (b : Nat) (S : List (Pl × Co)) (X : List Ob) (e : Ending) (w' : World) : Prop :=
  ∃ (b1 : Nat) (S1 : List (Pl × Co)), e = .returned (.map (some b1)) ∧ StateIs w' b1 S1 ∧ Below w.heap.size w w' ∧ S1.length = S.length ∧ ∀ x ∈ X, ∃ m v1 ts, Won w' b S S1 x m v1 ts

theorem mem_txt {a : ByteArray} {l : List ByteArray} : txt a ∈ l.map txt ↔ a ∈ l := by
  constructor
  · intro h
    obtain ⟨b, hb, e⟩ := List.mem_map.1 h
    rwa [← txt_inj e]
  · exact fun h => List.mem_map.2 ⟨a, h, rfl⟩

/-- Doubted of a State that was built of the objects X -/
theorem doubt1 (b : Nat) (S : List (Pl × Co)) (X : List Ob) (B : Nat) (w : World) (h : StateIs w b S) (hr : Rel w b S X) (hf : ∀ x ∈ X, x.Fine w B) (hn : (X.map (·.pl)).Nodup) : Calls Try.prog 9 #[.map (some b)] w (DPost1 w b S X) := by
  have hex : ∀ p : Pl × Co, ∃ dk : List ByteArray × List ByteArray, p ∈ S → ∃ x ∈ X, ∃ m, p = (x.pl, x.co m) ∧ EndMap w b m x ∧ dk.1 = x.ds ∧ KeysAre w p.2.e dk.2 ∧ dk.2.length ≤ x.es.length ∧ ∀ n, n ∈ dk.2 ↔ ∃ e ∈ x.es, e.n = n := by
    intro p
    by_cases hp : p ∈ S
    · obtain ⟨x, hx, m, rfl, he⟩ := hr.mem hp
      obtain ⟨ks, h1, h2, h3⟩ := he.keysAre
      exact ⟨(x.ds, ks), fun _ => ⟨x, hx, m, rfl, he, rfl, h1, h2, h3⟩⟩
    · exact ⟨([], []), fun h => absurd h hp⟩
  obtain ⟨DK, hDK⟩ := chosen hex
  refine (doubted b S (fun p => (DK p).1) (fun p => (DK p).2) w h fun p hp => ?_).mono ?_
  · obtain ⟨x, hx, m, rfl, he, h1, h2, h3, _⟩ := hDK p hp
    have fx := hf x hx
    refine ⟨fx.ok, by rw [h1]; exact fx.at'.de, h2, ?_⟩
    have := fx.small.de
    have := fx.small.e
    rw [h1]
    omega
  · rintro e w' ⟨b1, S1, rfl, hs1, hb, hl, hall⟩
    refine ⟨b1, S1, rfl, hs1, hb, hl, fun x hx => ?_⟩
    obtain ⟨m, hm, he⟩ := hr.of_mem hx
    obtain ⟨x', hx', m', e1, he', h1, h2, h3, h4⟩ := hDK _ hm
    have hxx : x = x' := nodup_map_inj hn hx hx' (congrArg Prod.fst e1)
    subst hxx
    obtain ⟨v1, ts, i1, s1, e2⟩ := hall _ hm
    have hmem : ∀ y, y ∈ ts ↔ y ∈ x.ds ∨ ∃ e ∈ x.es, e.n = y := fun y => by
      rw [← mem_txt, e2, dd_mem, mem_txt, List.mem_append, h1, h4]
    have fx := hf x hx
    refine ⟨m, v1, ts, hm, i1, he.below hb, s1, ⟨by rw [e2]; exact dd_sorted _, fun y hy => (hmem y).2 (.inl hy), fun y hy => (hmem _).2 (.inr ⟨y, hy, rfl⟩), fun y hy => (hmem y).1 hy, ?_⟩⟩
    have hlen := congrArg List.length e2
    have hle : (dd (((DK (x.pl, x.co m)).1 ++ (DK (x.pl, x.co m)).2).map txt)).length ≤ (((DK (x.pl, x.co m)).1 ++ (DK (x.pl, x.co m)).2).map txt).length :=
      nodup_le (pw_turn (dd_sorted _) fun _ _ h e => by subst e; exact List.lt_irrefl _ h) fun y hy => (dd_mem _ _).1 hy
    have := fx.small.de
    have := fx.small.e
    simp only [List.length_map, List.length_append] at hlen hle
    have hd := congrArg List.length h1
    omega
end Go.Proofs.Qxb6632526a
