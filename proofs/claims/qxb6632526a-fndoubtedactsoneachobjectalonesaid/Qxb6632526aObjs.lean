/- THE LAW's OWN OBJECTS, as they lie in memory -/
import Derived.Test.Qxb6632526aNames
namespace Go.Proofs.Qxb6632526a
open Go.RowKit

structure BytesAt (w : World) (s : SV) (xs : List Int) : Prop where
  len : s.l = xs.length
  nil : s.a = none → s.c = 0 ∧ xs = []
  cap : s.l ≤ s.c
  cell : ∀ i, (h : i < xs.length) → ∃ b off, s.a = some ⟨b, off, none⟩ ∧ w.cell? ⟨b, off + i, none⟩ = some (.int .u8 xs[i])

theorem BytesAt.below {w w' : World} {s : SV} {xs : List Int} (h : BytesAt w s xs) (hb : Below w.heap.size w w') : BytesAt w' s xs :=
  ⟨h.len, h.nil, h.cap, fun i hi => by
    obtain ⟨b, off, e, hc⟩ := h.cell i hi
    exact ⟨b, off, e, (hb.cell (World.block_lt_of_cell? w _ hc)).trans hc⟩⟩

/-- an endpoint: its name, its body, the body's bytes -/
structure Ep where
  n : ByteArray
  b : SV
  xs : List Int

structure EpsAt (w : World) (s : SV) (es : List Ep) : Prop where
  len : s.l = es.length
  nil : s.a = none → s.c = 0 ∧ es = []
  cap : s.l ≤ s.c
  cell : ∀ i, (h : i < es.length) → ∃ b off, s.a = some ⟨b, off, none⟩ ∧ w.cell? ⟨b, off + i * 2, none⟩ = some (.string es[i].n) ∧ w.cell? ⟨b, off + i * 2 + 1, none⟩ = some (.slice es[i].b.a es[i].b.l es[i].b.c)
  body : ∀ e ∈ es, BytesAt w e.b e.xs

theorem EpsAt.below {w w' : World} {s : SV} {es : List Ep} (h : EpsAt w s es) (hb : Below w.heap.size w w') : EpsAt w' s es :=
  ⟨h.len, h.nil, h.cap, fun i hi => by
    obtain ⟨b, off, e, hc, hd⟩ := h.cell i hi
    exact ⟨b, off, e, (hb.cell (World.block_lt_of_cell? w _ hc)).trans hc, (hb.cell (World.block_lt_of_cell? w _ hd)).trans hd⟩, fun e he => (h.body e he).below hb⟩

/-- an object of the law -/
structure Ob where
  p : ByteArray
  q : Int
  n : ByteArray
  b : SV
  o : SV
  e : SV
  r : SV
  d : Bool
  de : SV
  bs : List Int
  os : List Int
  es : List Ep
  rs : List ByteArray
  ds : List ByteArray

def Ob.cells (x : Ob) : List Value := [.string x.p, .int .i64 x.q, .string x.n, .slice x.b.a x.b.l x.b.c, .slice x.o.a x.o.l x.o.c, .slice x.e.a x.e.l x.e.c, .slice x.r.a x.r.l x.r.c, .bool x.d, .slice x.de.a x.de.l x.de.c]

structure Ob.At (w : World) (x : Ob) : Prop where
  q : (Lit.int .i64 x.q).wf = true
  b : BytesAt w x.b x.bs
  o : BytesAt w x.o x.os
  e : EpsAt w x.e x.es
  r : StrsAt w x.r x.rs
  de : StrsAt w x.de x.ds

theorem Ob.At.below {w w' : World} {x : Ob} (h : x.At w) (hb : Below w.heap.size w w') : x.At w' := ⟨h.q, h.b.below hb, h.o.below hb, h.e.below hb, h.r.below hb, h.de.below hb⟩

/-- nine cells in a row -/
structure NineAt (w : World) (b off : Nat) (x : Ob) : Prop where
  c0 : w.cell? ⟨b, off, none⟩ = some (.string x.p)
  c1 : w.cell? ⟨b, off + 1, none⟩ = some (.int .i64 x.q)
  c2 : w.cell? ⟨b, off + 2, none⟩ = some (.string x.n)
  c3 : w.cell? ⟨b, off + 3, none⟩ = some (.slice x.b.a x.b.l x.b.c)
  c4 : w.cell? ⟨b, off + 4, none⟩ = some (.slice x.o.a x.o.l x.o.c)
  c5 : w.cell? ⟨b, off + 5, none⟩ = some (.slice x.e.a x.e.l x.e.c)
  c6 : w.cell? ⟨b, off + 6, none⟩ = some (.slice x.r.a x.r.l x.r.c)
  c7 : w.cell? ⟨b, off + 7, none⟩ = some (.bool x.d)
  c8 : w.cell? ⟨b, off + 8, none⟩ = some (.slice x.de.a x.de.l x.de.c)

theorem NineAt.lt {w : World} {b off : Nat} {x : Ob} (h : NineAt w b off x) : b < w.heap.size := World.block_lt_of_cell? w _ h.c0

theorem NineAt.belowB {w w' : World} {b off B : Nat} {x : Ob} (h : NineAt w b off x) (hB : b < B) (hb : Below B w w') : NineAt w' b off x :=
  ⟨(hb.cell (p := ⟨b, _, none⟩) hB).trans h.c0, (hb.cell (p := ⟨b, _, none⟩) hB).trans h.c1, (hb.cell (p := ⟨b, _, none⟩) hB).trans h.c2, (hb.cell (p := ⟨b, _, none⟩) hB).trans h.c3, (hb.cell (p := ⟨b, _, none⟩) hB).trans h.c4, (hb.cell (p := ⟨b, _, none⟩) hB).trans h.c5, (hb.cell (p := ⟨b, _, none⟩) hB).trans h.c6, (hb.cell (p := ⟨b, _, none⟩) hB).trans h.c7, (hb.cell (p := ⟨b, _, none⟩) hB).trans h.c8⟩

theorem NineAt.below {w w' : World} {b off : Nat} {x : Ob} (h : NineAt w b off x) (hb : Below w.heap.size w w') : NineAt w' b off x := h.belowB h.lt hb

structure ObsAt (w : World) (s : SV) (L : List Ob) : Prop where
  len : s.l = L.length
  nil : s.a = none → s.c = 0 ∧ L = []
  cap : s.l ≤ s.c
  cell : ∀ i, (h : i < L.length) → ∃ b off, s.a = some ⟨b, off, none⟩ ∧ NineAt w b (off + i * 9) L[i]
  at' : ∀ x ∈ L, x.At w

theorem ObsAt.below {w w' : World} {s : SV} {L : List Ob} (h : ObsAt w s L) (hb : Below w.heap.size w w') : ObsAt w' s L :=
  ⟨h.len, h.nil, h.cap, fun i hi => by
    obtain ⟨b, off, e, hc⟩ := h.cell i hi
    exact ⟨b, off, e, hc.below hb⟩, fun x hx => (h.at' x hx).below hb⟩

/-- what zzBytes lets by -/
structure Ob.Small (x : Ob) : Prop where
  p : x.p.size ≤ 1048576
  n : x.n.size ≤ 1048576
  b : x.bs.length ≤ 1048576
  o : x.os.length ≤ 1048576
  e : x.es.length ≤ 1048576
  en : ∀ y ∈ x.es, y.n.size ≤ 1048576 ∧ y.xs.length ≤ 1048576
  r : x.rs.length ≤ 1048576
  de : x.ds.length ≤ 1048576
  rn : ∀ y ∈ x.rs, y.size ≤ 1048576
  dn : ∀ y ∈ x.ds, y.size ≤ 1048576
end Go.Proofs.Qxb6632526a
