import Derived.Test.Qxb6634828aMeet
import Derived.Deep.Slices
import Derived.Lib.SmallJoins
namespace Go.Proofs.Qxb6634828a
open Go.RowKit Go.Deep Go.Joins Go.ChangeShapes

theorem Try.cells43 : Try.prog.cellsOf 43 = 4 := by kernel_rfl
theorem Try.cells2 : Try.prog.cellsOf 2 = 1 := by kernel_rfl
theorem Try.cells4 : Try.prog.cellsOf 4 = 1 := by kernel_rfl
theorem Try.cells5 : Try.prog.cellsOf 5 = 1 := by kernel_rfl

theorem list4 {α : Type} : ∀ {l : List α}, l.length = 4 → ∃ a b c d, l = [a, b, c, d]
  | [a, b, c, d], _ => ⟨a, b, c, d, rfl⟩

set_option maxRecDepth 100000 in
/-- one element's four cells -/
theorem hd_of {K : Type} {enc : TypeId × Value → K} {w : World} {base : Nat} {spare : Nat → Bool} {held : Bool} {b off i n : Nat} {cs : List Value} {y : DataW K × List MemPlace}
    (hcs : w.cells? base ((⟨b, off, none⟩ : Addr).add (i * 4)) 4 = some cs) (hy : DataW.trod enc Try.prog w base spare held n 43 cs = some y) :
    ∃ h : Hd, HdAt w b (off + i * 4) h := by
  obtain ⟨_, hlen, hcell⟩ := World.cells?_some hcs
  obtain ⟨y0, y1, y2, y3, m, _, _, h0, h1, h2, h3⟩ := trod_struct4 Try.underlying43 hy
  obtain ⟨v0, v1, v2, v3, rfl⟩ := list4 hlen
  simp only [Try.cells2, Try.cells4, Try.cells5] at h0 h1 h2 h3
  obtain ⟨s, e0, _, _⟩ := DataW.trod_int Try.underlying2 h0
  obtain ⟨t, e1, _⟩ := DataW.trod_bool Try.underlying4 h1
  obtain ⟨r, e2, _, _⟩ := DataW.trod_int Try.underlying5 h2
  obtain ⟨q, e3, _, _⟩ := DataW.trod_int Try.underlying2 h3
  simp at e0 e1 e2 e3
  subst e0 e1 e2 e3
  have g0 := hcell 0 (by omega)
  have g1 := hcell 1 (by omega)
  have g2 := hcell 2 (by omega)
  have g3 := hcell 3 (by omega)
  rw [add_add] at g0 g1 g2 g3
  have hplain : ∀ j, (⟨b, off, none⟩ : Addr).add j = ⟨b, off + j, none⟩ := by intro j; unfold Addr.add; split <;> simp_all
  simp only [hplain] at g0 g1 g2 g3
  exact ⟨⟨s, t, r, q⟩, by simpa using g0, by simpa [Nat.add_assoc] using g1, by simpa [Nat.add_assoc] using g2, by simpa [Nat.add_assoc] using g3⟩

set_option maxRecDepth 100000 in
/-- what the walk is told of a slice of holders that came in -/
theorem open_holders {K : Type} {enc : TypeId × Value → K} {w : World} {base fuel : Nat} {a : Option Addr} {len cap : Nat} {y : DataW K × List MemPlace}
    (hf : DataW.trod enc Try.prog w base (fun _ => true) true fuel 22 [.slice a len cap] = some y) :
    len ≤ cap ∧ cap ≤ maxLen ∧ ∃ H : Nat → Hd, ∀ i, i < cap → ∃ b off, a = some ⟨b, off, none⟩ ∧ HdAt w b (off + i * 4) (H i) := by
  rcases open_slice Try.underlying22 hf with ⟨hcs, _⟩ | ⟨x, l, c, m, n, D, Pl, hcs, hb, hl, hm, hmm, _, hel⟩
  · simp at hcs
    obtain ⟨rfl, rfl, rfl⟩ := hcs
    exact ⟨Nat.le_refl _, by unfold maxLen; omega, fun _ => Hd.zero, fun i hi => absurd hi (Nat.not_lt_zero _)⟩
  · simp at hcs
    obtain ⟨rfl, rfl, rfl⟩ := hcs
    simp at hmm
    subst hmm
    have : Inhabited Hd := ⟨Hd.zero⟩
    have hx : 0 < m → ∃ b off, x = ⟨b, off, none⟩ := by
      intro h
      obtain ⟨cs, h1, _⟩ := hel 0 h
      rw [Try.cells43] at h1
      obtain ⟨_, hlen, hcell⟩ := World.cells?_some h1
      have g0 := hcell 0 (by omega)
      rw [add_add] at g0
      obtain ⟨v0, v1, v2, v3, rfl⟩ := list4 hlen
      obtain ⟨b, off, spot⟩ := x
      have hspot : spot = none := by
        have := World.cell?_spot (v := v0) (by simpa using g0)
        simpa [Addr.add] using this
      subst hspot
      exact ⟨b, off, rfl⟩
    refine ⟨hl, hm, choose_lt (p := fun i h => ∃ b off, some x = some ⟨b, off, none⟩ ∧ HdAt w b (off + i * 4) h) fun i hi => ?_⟩
    obtain ⟨cs, h1, h2⟩ := hel i hi
    rw [Try.cells43] at h1
    obtain ⟨b, off, rfl⟩ := hx (by omega)
    obtain ⟨h, hd⟩ := hd_of h1 h2
    exact ⟨h, b, off, rfl, hd⟩

theorem wrap_of_wf {t : Int} (h : (Lit.int .i64 t).wf = true) : wrap64 t = t := by
  simp [Lit.wf, IntKind.min, IntKind.max, IntKind.signed, IntKind.bits] at h
  unfold wrap64
  omega
end Go.Proofs.Qxb6634828a
