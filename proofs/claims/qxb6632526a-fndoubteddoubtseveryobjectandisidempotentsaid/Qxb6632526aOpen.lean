/- the argument opened: a []PlanObj that came in -/
import Derived.Test.Qxb6632526aObjs
import Derived.Deep.Slices
import Derived.Lib.SmallJoins
namespace Go.Proofs.Qxb6632526a
open Go.RowKit Go.Deep Go.Joins Go.ChangeShapes

theorem Try.cells35 : Try.prog.cellsOf 35 = 9 := by kernel_rfl
theorem Try.cells50 : Try.prog.cellsOf 50 = 2 := by kernel_rfl
theorem Try.cells3 : Try.prog.cellsOf 3 = 1 := by kernel_rfl
theorem Try.cells4 : Try.prog.cellsOf 4 = 1 := by kernel_rfl
theorem Try.cells5 : Try.prog.cellsOf 5 = 1 := by kernel_rfl
theorem Try.cells31 : Try.prog.cellsOf 31 = 1 := by kernel_rfl
theorem Try.cells32 : Try.prog.cellsOf 32 = 1 := by kernel_rfl
theorem Try.cells33 : Try.prog.cellsOf 33 = 1 := by kernel_rfl

theorem plain_of_cell {w : World} {a : Addr} {v : Value} (h : w.cell? (a.add 0) = some v) : ∃ b off, a = ⟨b, off, none⟩ := by
  obtain ⟨b, off, spot⟩ := a
  have hspot : spot = none := by
    have := World.cell?_spot h
    simpa [Addr.add] using this
  subst hspot
  exact ⟨b, off, rfl⟩

theorem add0 (b off j : Nat) : (⟨b, off, none⟩ : Addr).add j = ⟨b, off + j, none⟩ := by unfold Addr.add; split <;> simp_all

section
variable {K : Type} {enc : TypeId × Value → K} {w : World} {base n : Nat} {spare : Nat → Bool} {held : Bool} {cs : List Value} {y : DataW K × List MemPlace}

theorem open_bytes (h : DataW.trod enc Try.prog w base spare held n 31 cs = some y) : ∃ (s : SV) (xs : List Int), cs = [.slice s.a s.l s.c] ∧ BytesAt w s xs := by
  rcases open_slice1 Try.underlying31 Try.cells5 h with ⟨rfl, _⟩ | ⟨a, len, cap, m, n, V, D, Pl, rfl, hb, hl, hm, hmm, _, hel⟩
  · exact ⟨⟨none, 0, 0⟩, [], rfl, rfl, fun _ => ⟨rfl, rfl⟩, Nat.le_refl _, fun i hi => absurd hi (Nat.not_lt_zero _)⟩
  · have hlm : len ≤ m := by rw [hmm]; split <;> omega
    obtain ⟨f, hf⟩ : ∃ f : Nat → Int, ∀ i, i < len → w.cell? (a.add i) = some (.int .u8 (f i)) := choose_lt (n := len) fun i hi => by
      obtain ⟨h1, h2⟩ := hel i (by omega)
      obtain ⟨z, e, _⟩ := DataW.trod_int Try.underlying5 h2
      simp only [List.cons.injEq, and_true] at e
      rw [e] at h1
      exact ⟨z, h1⟩
    refine ⟨⟨some a, len, cap⟩, (List.range len).map f, rfl, by simp, (fun e => by cases e), hl, fun i hi => ?_⟩
    have hi' : i < len := by simpa using hi
    have hc := hf i hi'
    obtain ⟨b, off, rfl⟩ := plain_of_cell (hf 0 (by omega))
    rw [add0] at hc
    exact ⟨b, off, rfl, by simpa using hc⟩

theorem open_strs (h : DataW.trod enc Try.prog w base spare held n 33 cs = some y) : ∃ (s : SV) (xs : List ByteArray), cs = [.slice s.a s.l s.c] ∧ StrsAt w s xs := by
  rcases open_slice1 Try.underlying33 Try.cells9 h with ⟨rfl, _⟩ | ⟨a, len, cap, m, n, V, D, Pl, rfl, hb, hl, hm, hmm, _, hel⟩
  · exact ⟨⟨none, 0, 0⟩, [], rfl, rfl, fun _ => ⟨rfl, rfl⟩, Nat.le_refl _, fun i hi => absurd hi (Nat.not_lt_zero _)⟩
  · have hlm : len ≤ m := by rw [hmm]; split <;> omega
    obtain ⟨f, hf⟩ : ∃ f : Nat → ByteArray, ∀ i, i < len → w.cell? (a.add i) = some (.string (f i)) := choose_lt (n := len) fun i hi => by
      obtain ⟨h1, h2⟩ := hel i (by omega)
      obtain ⟨z, e, _⟩ := DataW.trod_string Try.underlying9 h2
      simp only [List.cons.injEq, and_true] at e
      rw [e] at h1
      exact ⟨z, h1⟩
    refine ⟨⟨some a, len, cap⟩, (List.range len).map f, rfl, by simp, (fun e => by cases e), hl, fun i hi => ?_⟩
    have hi' : i < len := by simpa using hi
    have hc := hf i hi'
    obtain ⟨b, off, rfl⟩ := plain_of_cell (hf 0 (by omega))
    rw [add0] at hc
    exact ⟨b, off, rfl, by simpa using hc⟩

theorem list2 {α : Type} : ∀ {l : List α}, l.length = 2 → ∃ a b, l = [a, b]
  | [a, b], _ => ⟨a, b, rfl⟩
theorem list9 {α : Type} : ∀ {l : List α}, l.length = 9 → ∃ a b c d e f g h i, l = [a, b, c, d, e, f, g, h, i]
  | [a, b, c, d, e, f, g, h, i], _ => ⟨a, b, c, d, e, f, g, h, i, rfl⟩

theorem head_of {a : Addr} {k : Nat} (hcs : w.cells? base (a.add (0 * k)) k = some cs) (hk : 0 < k) : ∃ b off, a = ⟨b, off, none⟩ := by
  obtain ⟨_, hlen, hcell⟩ := World.cells?_some hcs
  have g0 := hcell 0 (by omega)
  rw [add_add, Nat.zero_mul, Nat.zero_add] at g0
  exact plain_of_cell (g0.trans (List.getElem?_eq_getElem (by omega)))

theorem open_ep {b off : Nat} {i : Nat} (hcs : w.cells? base ((⟨b, off, none⟩ : Addr).add (i * 2)) 2 = some cs) (hy : DataW.trod enc Try.prog w base spare held n 50 cs = some y) :
    ∃ (e : Ep), (w.cell? ⟨b, off + i * 2, none⟩ = some (.string e.n) ∧ w.cell? ⟨b, off + i * 2 + 1, none⟩ = some (.slice e.b.a e.b.l e.b.c)) ∧ BytesAt w e.b e.xs := by
  obtain ⟨_, hlen, hcell⟩ := World.cells?_some hcs
  obtain ⟨xs, m, _, _, _, hl2, hf⟩ := DataW.trod_struct Try.underlying50 hy
  obtain ⟨v0, v1, rfl⟩ := list2 hlen
  obtain ⟨y0, y1, rfl⟩ := list2 (l := xs) (by simpa using hl2)
  have h0 := hf 0 _ rfl
  have h1 := hf 1 _ rfl
  simp [Try.cells9, Try.cells31] at h0 h1
  obtain ⟨s, e0, _⟩ := DataW.trod_string Try.underlying9 h0
  obtain ⟨bv, xs, e1, hb⟩ := open_bytes h1
  simp at e0 e1
  subst e0 e1
  have g0 := hcell 0 (by omega)
  have g1 := hcell 1 (by omega)
  rw [add_add, add0] at g0 g1
  exact ⟨⟨s, bv, xs⟩, ⟨by simpa using g0, by simpa [Nat.add_assoc] using g1⟩, hb⟩

theorem open_eps (h : DataW.trod enc Try.prog w base spare held n 32 cs = some y) : ∃ (s : SV) (es : List Ep), cs = [.slice s.a s.l s.c] ∧ EpsAt w s es := by
  rcases open_slice Try.underlying32 h with ⟨rfl, _⟩ | ⟨a, len, cap, m, n, D, Pl, rfl, hb, hl, hm, hmm, _, hel⟩
  · exact ⟨⟨none, 0, 0⟩, [], rfl, rfl, fun _ => ⟨rfl, rfl⟩, Nat.le_refl _, fun i hi => absurd hi (Nat.not_lt_zero _), fun e he => absurd he (by simp)⟩
  · have hlm : len ≤ m := by rw [hmm]; split <;> omega
    rw [Try.cells50] at hel
    have : Inhabited Ep := ⟨⟨ByteArray.empty, ⟨none, 0, 0⟩, []⟩⟩
    obtain ⟨f, hf⟩ : ∃ f : Nat → Ep, ∀ i, i < len → (∃ b off, a = ⟨b, off, none⟩ ∧ w.cell? ⟨b, off + i * 2, none⟩ = some (.string (f i).n) ∧ w.cell? ⟨b, off + i * 2 + 1, none⟩ = some (.slice (f i).b.a (f i).b.l (f i).b.c)) ∧ BytesAt w (f i).b (f i).xs := choose_lt (n := len) (p := fun i (e : Ep) => (∃ b off, a = ⟨b, off, none⟩ ∧ w.cell? ⟨b, off + i * 2, none⟩ = some (.string e.n) ∧ w.cell? ⟨b, off + i * 2 + 1, none⟩ = some (.slice e.b.a e.b.l e.b.c)) ∧ BytesAt w e.b e.xs) fun i hi => by
      obtain ⟨cs', h1, h2⟩ := hel i (by omega)
      obtain ⟨cs0, h3, _⟩ := hel 0 (by omega)
      obtain ⟨b, off, rfl⟩ := head_of h3 (by omega)
      obtain ⟨e, h4, h5⟩ := open_ep h1 h2
      exact ⟨e, ⟨b, off, rfl, h4⟩, h5⟩
    refine ⟨⟨some a, len, cap⟩, (List.range len).map f, rfl, by simp, (fun e => by cases e), hl, fun i hi => ?_, fun e he => ?_⟩
    · have hi' : i < len := by simpa using hi
      obtain ⟨⟨b, off, rfl, h1, h2⟩, _⟩ := hf i hi'
      exact ⟨b, off, rfl, by simpa using h1, by simpa using h2⟩
    · obtain ⟨i, hi, rfl⟩ := List.mem_map.1 he
      exact (hf i (List.mem_range.1 hi)).2

set_option maxHeartbeats 1000000 in
theorem open_ob {b off : Nat} {i : Nat} (hcs : w.cells? base ((⟨b, off, none⟩ : Addr).add (i * 9)) 9 = some cs) (hy : DataW.trod enc Try.prog w base spare held n 35 cs = some y) :
    ∃ (x : Ob), NineAt w b (off + i * 9) x ∧ x.At w := by
  obtain ⟨_, hlen, hcell⟩ := World.cells?_some hcs
  obtain ⟨xs, m, _, _, _, hl2, hf⟩ := DataW.trod_struct Try.underlying35 hy
  obtain ⟨v0, v1, v2, v3, v4, v5, v6, v7, v8, rfl⟩ := list9 hlen
  obtain ⟨y0, y1, y2, y3, y4, y5, y6, y7, y8, rfl⟩ := list9 (l := xs) (by simpa using hl2)
  have h0 := hf 0 _ rfl
  have h1 := hf 1 _ rfl
  have h2 := hf 2 _ rfl
  have h3 := hf 3 _ rfl
  have h4 := hf 4 _ rfl
  have h5 := hf 5 _ rfl
  have h6 := hf 6 _ rfl
  have h7 := hf 7 _ rfl
  have h8 := hf 8 _ rfl
  clear hf hl2
  simp [Try.cells9, Try.cells31, Try.cells3, Try.cells32, Try.cells33, Try.cells4] at h0 h1 h2 h3 h4 h5 h6 h7 h8
  obtain ⟨p, e0, _⟩ := DataW.trod_string Try.underlying9 h0
  obtain ⟨q, e1, _, wq⟩ := DataW.trod_int Try.underlying3 h1
  obtain ⟨nm, e2, _⟩ := DataW.trod_string Try.underlying9 h2
  obtain ⟨bv, bs, e3, hb⟩ := open_bytes h3
  obtain ⟨ov, os, e4, ho⟩ := open_bytes h4
  obtain ⟨ev, es, e5, he⟩ := open_eps h5
  obtain ⟨rv, rs, e6, hr⟩ := open_strs h6
  obtain ⟨d, e7, _⟩ := DataW.trod_bool Try.underlying4 h7
  obtain ⟨dv, ds, e8, hd⟩ := open_strs h8
  simp only [List.cons.injEq, and_true] at e0 e1 e2 e3 e4 e5 e6 e7 e8
  subst e0 e1 e2 e3 e4 e5 e6 e7 e8
  clear h0 h1 h2 h3 h4 h5 h6 h7 h8
  have g0 := hcell 0 (by omega)
  have g1 := hcell 1 (by omega)
  have g2 := hcell 2 (by omega)
  have g3 := hcell 3 (by omega)
  have g4 := hcell 4 (by omega)
  have g5 := hcell 5 (by omega)
  have g6 := hcell 6 (by omega)
  have g7 := hcell 7 (by omega)
  have g8 := hcell 8 (by omega)
  rw [add_add, add0] at g0 g1 g2 g3 g4 g5 g6 g7 g8
  exact ⟨⟨p, q, nm, bv, ov, ev, rv, d, dv, bs, os, es, rs, ds⟩, ⟨by simpa using g0, by simpa [Nat.add_assoc] using g1, by simpa [Nat.add_assoc] using g2, by simpa [Nat.add_assoc] using g3, by simpa [Nat.add_assoc] using g4, by simpa [Nat.add_assoc] using g5, by simpa [Nat.add_assoc] using g6, by simpa [Nat.add_assoc] using g7, by simpa [Nat.add_assoc] using g8⟩, ⟨wq, hb, ho, he, hr, hd⟩⟩

theorem open_obs (h : DataW.trod enc Try.prog w base spare held n 22 cs = some y) : ∃ (s : SV) (L : List Ob), cs = [.slice s.a s.l s.c] ∧ ObsAt w s L := by
  rcases open_slice Try.underlying22 h with ⟨rfl, _⟩ | ⟨a, len, cap, m, n, D, Pl, rfl, hb, hl, hm, hmm, _, hel⟩
  · exact ⟨⟨none, 0, 0⟩, [], rfl, rfl, fun _ => ⟨rfl, rfl⟩, Nat.le_refl _, fun i hi => absurd hi (Nat.not_lt_zero _), fun e he => absurd he (by simp)⟩
  · have hlm : len ≤ m := by rw [hmm]; split <;> omega
    rw [Try.cells35] at hel
    have : Inhabited Ob := ⟨⟨ByteArray.empty, 0, ByteArray.empty, ⟨none, 0, 0⟩, ⟨none, 0, 0⟩, ⟨none, 0, 0⟩, ⟨none, 0, 0⟩, false, ⟨none, 0, 0⟩, [], [], [], [], []⟩⟩
    obtain ⟨f, hf⟩ : ∃ f : Nat → Ob, ∀ i, i < len → (∃ b off, a = ⟨b, off, none⟩ ∧ NineAt w b (off + i * 9) (f i)) ∧ (f i).At w := choose_lt (n := len) (p := fun i (e : Ob) => (∃ b off, a = ⟨b, off, none⟩ ∧ NineAt w b (off + i * 9) e) ∧ e.At w) fun i hi => by
      obtain ⟨cs', h1, h2⟩ := hel i (by omega)
      obtain ⟨cs0, h3, _⟩ := hel 0 (by omega)
      obtain ⟨b, off, rfl⟩ := head_of h3 (by omega)
      obtain ⟨e, h4, h5⟩ := open_ob h1 h2
      exact ⟨e, ⟨b, off, rfl, h4⟩, h5⟩
    refine ⟨⟨some a, len, cap⟩, (List.range len).map f, rfl, by simp, (fun e => by cases e), hl, fun i hi => ?_, fun e he => ?_⟩
    · have hi' : i < len := by simpa using hi
      obtain ⟨⟨b, off, rfl, h1⟩, _⟩ := hf i hi'
      exact ⟨b, off, rfl, by simpa using h1⟩
    · obtain ⟨i, hi, rfl⟩ := List.mem_map.1 he
      exact (hf i (List.mem_range.1 hi)).2
end
end Go.Proofs.Qxb6632526a
