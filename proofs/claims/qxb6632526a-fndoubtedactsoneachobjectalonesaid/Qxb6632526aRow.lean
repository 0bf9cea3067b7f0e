/- rows of cells that the call has made -/
import Derived.Test.Qxb6632526aTooBig
namespace Go.Proofs.Qxb6632526a
open Go.RowKit

def Row (w : World) (B n : Nat) : Prop := ∃ cur t, w.heap[B]? = some (.cells cur t (0, 0)) ∧ cur.size = n

theorem Row.lt {w : World} {B n : Nat} (h : Row w B n) : B < w.heap.size := by
  obtain ⟨cur, t, h, _⟩ := h
  exact (Array.getElem?_eq_some_iff.1 h).1

theorem Row.cell {w : World} {B n : Nat} (h : Row w B n) {i : Nat} (hi : i < n) : ∃ v, w.cell? ⟨B, i, none⟩ = some v := by
  obtain ⟨cur, t, h, rfl⟩ := h
  exact ⟨cur[i], by simp [World.cell?, h, hi]⟩

theorem Row.frozen {w : World} {B n : Nat} (h : Row w B n) (i : Nat) : w.frozen? ⟨B, i, none⟩ = false := by
  obtain ⟨cur, t, h, rfl⟩ := h
  simp [World.frozen?, h]

theorem Row.set {w : World} {B n : Nat} (h : Row w B n) (i : Nat) (v : Value) : Row (w.setCell ⟨B, i, none⟩ v) B n := by
  obtain ⟨cur, t, h, rfl⟩ := h
  exact ⟨_, t, heap_setCell_same w B i cur t v h, by simp⟩

theorem Row.below {w w' : World} {B n : Nat} (h : Row w B n) (hb : Below w.heap.size w w') : Row w' B n := by
  have hl := h.lt
  obtain ⟨cur, t, h, rfl⟩ := h
  exact ⟨cur, t, (hb.block _ hl).trans h, rfl⟩

theorem Row.drew {w : World} {B n : Nat} (h : Row w B n) : Row w.drew B n := h.below (Below.refl _ _).drew

theorem Row.made (w : World) (z : Array Value) (n : Nat) (t : TypeId) : Row (w.alloc (.cells (madeCells z n) t)) w.heap.size n :=
  ⟨_, t, (MapKept.heap_alloc w _).1, size_madeCells z n⟩

theorem set_far {w : World} {B b i j : Nat} (v : Value) (h : B ≠ b) : (w.setCell ⟨B, i, none⟩ v).cell? ⟨b, j, none⟩ = w.cell? ⟨b, j, none⟩ :=
  World.cell?_setCell_other _ _ _ _ (fun e => h (by cases e; rfl))

theorem set_near {w : World} {B i j : Nat} (v : Value) (h : i ≠ j) : (w.setCell ⟨B, i, none⟩ v).cell? ⟨B, j, none⟩ = w.cell? ⟨B, j, none⟩ :=
  World.cell?_setCell_other _ _ _ _ (fun e => h (by cases e; rfl))

theorem set_here {w : World} {B n i : Nat} (v : Value) (h : Row w B n) (hi : i < n) : (w.setCell ⟨B, i, none⟩ v).cell? ⟨B, i, none⟩ = some v := by
  obtain ⟨u, hu⟩ := h.cell hi
  exact World.cell?_setCell_same _ _ _ hu

theorem BytesAt.set {w : World} {s : SV} {xs : List Int} {B : Nat} (h : BytesAt w s xs) (hs : s.newAt (B + 1)) (i : Nat) (v : Value) : BytesAt (w.setCell ⟨B, i, none⟩ v) s xs :=
  ⟨h.len, h.nil, h.cap, fun j hj => by
    obtain ⟨b, off, e, hc⟩ := h.cell j hj
    exact ⟨b, off, e, (set_far v (hs.ne e)).trans hc⟩⟩

theorem StrsAt.set {w : World} {s : SV} {xs : List ByteArray} {B : Nat} (h : StrsAt w s xs) (hs : s.newAt (B + 1)) (i : Nat) (v : Value) : StrsAt (w.setCell ⟨B, i, none⟩ v) s xs :=
  ⟨h.len, h.nil, h.cap, fun j hj => by
    obtain ⟨b, off, e, hc⟩ := h.cell j hj
    exact ⟨b, off, e, (set_far v (hs.ne e)).trans hc⟩⟩

theorem EpsAt.set {w : World} {s : SV} {es : List Ep} {B : Nat} (h : EpsAt w s es) (hs : s.newAt (B + 1)) (he : ∀ e ∈ es, e.b.newAt (B + 1)) (i : Nat) (v : Value) : EpsAt (w.setCell ⟨B, i, none⟩ v) s es :=
  ⟨h.len, h.nil, h.cap, fun j hj => by
    obtain ⟨b, off, e, hc, hd⟩ := h.cell j hj
    exact ⟨b, off, e, (set_far v (hs.ne e)).trans hc, (set_far v (hs.ne e)).trans hd⟩, fun e hm => (h.body e hm).set (he e hm) i v⟩
end Go.Proofs.Qxb6632526a
