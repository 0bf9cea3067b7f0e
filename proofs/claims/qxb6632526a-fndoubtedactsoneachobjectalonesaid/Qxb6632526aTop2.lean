/- Doubted of what Doubted made -/
import Derived.Test.Qxb6632526aTop
namespace Go.Proofs.Qxb6632526a
open Go.RowKit Go.Maps

theorem strs_unique {w : World} {s : SV} {ss tt : List ByteArray} (h : StrsAt w s ss) (h' : StrsAt w s tt) : ss = tt := by
  have hl : ss.length = tt.length := h.len.symm.trans h'.len
  refine List.ext_getElem hl fun i h1 h2 => ?_
  obtain ⟨b, off, e, c⟩ := h.cell i h1
  obtain ⟨b', off', e', c'⟩ := h'.cell i h2
  rw [e] at e'
  cases e'
  rw [c] at c'
  simpa using c'

theorem nodup_cover {α : Type} {l m : List α} (hl : l.Nodup) (h : ∀ x ∈ l, x ∈ m) (hle : m.length ≤ l.length) : ∀ x ∈ m, x ∈ l := by
  intro x hx
  apply Classical.byContradiction
  intro hn
  have := nodup_le (l := x :: l) (m := m) (List.nodup_cons.2 ⟨hn, hl⟩) fun y hy => by
    rcases List.mem_cons.1 hy with rfl | hy
    · exact hx
    · exact h y hy
  simp at this
  omega

def DPost2 (w : World) (b : Nat) (S S1 : List (Pl × Co)) (X : List Ob) (e : Ending) (w' : World) : Prop :=
  ∃ (b2 : Nat) (S2 : List (Pl × Co)), e = .returned (.map (some b2)) ∧ StateIs w' b2 S2 ∧ Below w.heap.size w w' ∧ S2.length = S1.length ∧ ∀ x ∈ X, ∀ m v1 ts, Won w b S S1 x m v1 ts → ∃ v2, (x.pl, ((x.co m).doubt v1).doubt v2) ∈ S2 ∧ StrsAt w' v2 ts

theorem doubt2 (b b1 : Nat) (S S1 : List (Pl × Co)) (X : List Ob) (B : Nat) (w : World) (h1 : StateIs w b1 S1) (hwon : ∀ x ∈ X, ∃ m v1 ts, Won w b S S1 x m v1 ts) (hlen : S1.length = X.length) (hf : ∀ x ∈ X, x.Fine w B) (hn : (X.map (·.pl)).Nodup) :
    Calls Try.prog 9 #[.map (some b1)] w (DPost2 w b S S1 X) := by
  have hn1 := StateIs.nodup h1
  have hcov : ∀ p ∈ S1, ∃ x ∈ X, ∃ m v1 ts, Won w b S S1 x m v1 ts ∧ p = (x.pl, (x.co m).doubt v1) := by
    intro p hp
    have hin : p.1 ∈ X.map (·.pl) := nodup_cover (m := S1.map (·.1)) hn (fun q hq => by
      obtain ⟨x, hx, rfl⟩ := List.mem_map.1 hq
      obtain ⟨m, v1, ts, hw⟩ := hwon x hx
      exact List.mem_map.2 ⟨_, hw.i1, rfl⟩) (by simp [hlen]) _ (List.mem_map.2 ⟨p, hp, rfl⟩)
    obtain ⟨x, hx, e⟩ := List.mem_map.1 hin
    obtain ⟨m, v1, ts, hw⟩ := hwon x hx
    exact ⟨x, hx, m, v1, ts, hw, nodup_map_inj hn1 hp hw.i1 e.symm⟩
  have hex : ∀ p : Pl × Co, ∃ dk : List ByteArray × List ByteArray, p ∈ S1 → ∃ x ∈ X, ∃ m v1, Won w b S S1 x m v1 dk.1 ∧ p = (x.pl, (x.co m).doubt v1) ∧ KeysAre w p.2.e dk.2 ∧ dk.2.length ≤ x.es.length ∧ ∀ n, n ∈ dk.2 ↔ ∃ e ∈ x.es, e.n = n := by
    intro p
    by_cases hp : p ∈ S1
    · obtain ⟨x, hx, m, v1, ts, hw, rfl⟩ := hcov p hp
      obtain ⟨ks, k1, k2, k3⟩ := hw.e.keysAre
      exact ⟨(ts, ks), fun _ => ⟨x, hx, m, v1, hw, rfl, k1, k2, k3⟩⟩
    · exact ⟨([], []), fun h => absurd h hp⟩
  obtain ⟨DK, hDK⟩ := chosen hex
  have hts : ∀ x ∈ X, ∀ m v1 ts, Won w b S S1 x m v1 ts → ts.length ≤ 2097152 := fun x hx m v1 ts hw => by
    have := nodup_le (l := ts.map txt) (m := (x.ds.map txt) ++ (x.es.map fun e => txt e.n)) (pw_turn hw.u.up fun _ _ h e => by subst e; exact List.lt_irrefl _ h) fun y hy => by
      obtain ⟨z, hz, rfl⟩ := List.mem_map.1 hy
      rcases hw.u.all z hz with h | ⟨e, he, rfl⟩
      · exact List.mem_append.2 (.inl (List.mem_map.2 ⟨z, h, rfl⟩))
      · exact List.mem_append.2 (.inr (List.mem_map.2 ⟨e, he, rfl⟩))
    have h2 := (hf x hx).small.de
    have h3 := (hf x hx).small.e
    simp at this
    omega
  refine (doubted b1 S1 (fun p => (DK p).1) (fun p => (DK p).2) w h1 fun p hp => ?_).mono ?_
  · obtain ⟨x, hx, m, v1, hw, rfl, k1, k2, _⟩ := hDK p hp
    have fx := hf x hx
    refine ⟨fx.ok, hw.s1, k1, ?_⟩
    have := hts x hx m v1 _ hw
    have := fx.small.e
    omega
  · rintro e w' ⟨b2, S2, rfl, hs2, hb, hl, hall⟩
    refine ⟨b2, S2, rfl, hs2, hb, hl, fun x hx m v1 ts hw => ?_⟩
    obtain ⟨x', hx', m', v1', hw', e1, k1, k2, k3⟩ := hDK _ hw.i1
    have hxx : x = x' := nodup_map_inj hn hx hx' (congrArg Prod.fst e1)
    subst hxx
    have hv : v1 = v1' := congrArg (fun p : Pl × Co => p.2.de) e1
    subst hv
    have hd : (DK (x.pl, (x.co m).doubt v1)).1 = ts := strs_unique hw'.s1 hw.s1
    obtain ⟨v2, t2, i2, s2, e2⟩ := hall _ hw.i1
    refine ⟨v2, i2, ?_⟩
    have : t2 = ts := map_txt_inj (by
      rw [e2, List.map_append, hd]
      refine dd_again hw.u.up fun y hy => ?_
      obtain ⟨z, hz, rfl⟩ := List.mem_map.1 hy
      obtain ⟨e, he, rfl⟩ := (k3 z).1 hz
      exact mem_txt.2 (hw.u.es e he))
    rwa [this] at s2
end Go.Proofs.Qxb6632526a
