/- the box of a local 'o PlanObj' -/
import Derived.Test.Qxb6632526aSame
namespace Go.Proofs.Qxb6632526a
open Go.RowKit

structure BoxAt (w : World) (B : Nat) (x : Ob) : Prop where
  c0 : w.cell? ⟨B, 0, none⟩ = some (.string x.p)
  c1 : w.cell? ⟨B, 1, none⟩ = some (.int .i64 x.q)
  c2 : w.cell? ⟨B, 2, none⟩ = some (.string x.n)
  c3 : w.cell? ⟨B, 3, none⟩ = some (.slice x.b.a x.b.l x.b.c)
  c4 : w.cell? ⟨B, 4, none⟩ = some (.slice x.o.a x.o.l x.o.c)
  c5 : w.cell? ⟨B, 5, none⟩ = some (.slice x.e.a x.e.l x.e.c)
  c6 : w.cell? ⟨B, 6, none⟩ = some (.slice x.r.a x.r.l x.r.c)
  c7 : w.cell? ⟨B, 7, none⟩ = some (.bool x.d)
  c8 : w.cell? ⟨B, 8, none⟩ = some (.slice x.de.a x.de.l x.de.c)

theorem BoxAt.lt {w : World} {B : Nat} {x : Ob} (h : BoxAt w B x) : B < w.heap.size := World.block_lt_of_cell? w _ h.c0

theorem BoxAt.below {w w' : World} {B : Nat} {x : Ob} (h : BoxAt w B x) (hb : Below w.heap.size w w') : BoxAt w' B x :=
  ⟨(hb.cell (p := ⟨B, _, none⟩) h.lt).trans h.c0, (hb.cell (p := ⟨B, _, none⟩) h.lt).trans h.c1, (hb.cell (p := ⟨B, _, none⟩) h.lt).trans h.c2, (hb.cell (p := ⟨B, _, none⟩) h.lt).trans h.c3, (hb.cell (p := ⟨B, _, none⟩) h.lt).trans h.c4, (hb.cell (p := ⟨B, _, none⟩) h.lt).trans h.c5, (hb.cell (p := ⟨B, _, none⟩) h.lt).trans h.c6, (hb.cell (p := ⟨B, _, none⟩) h.lt).trans h.c7, (hb.cell (p := ⟨B, _, none⟩) h.lt).trans h.c8⟩

theorem boxed (w : World) (x : Ob) : BoxAt (w.alloc (.cells #[.string x.p, .int .i64 x.q, .string x.n, .slice x.b.a x.b.l x.b.c, .slice x.o.a x.o.l x.o.c, .slice x.e.a x.e.l x.e.c, .slice x.r.a x.r.l x.r.c, .bool x.d, .slice x.de.a x.de.l x.de.c] 35)) w.heap.size x := by
  have hb := (MapKept.heap_alloc w (.cells #[.string x.p, .int .i64 x.q, .string x.n, .slice x.b.a x.b.l x.b.c, .slice x.o.a x.o.l x.o.c, .slice x.e.a x.e.l x.e.c, .slice x.r.a x.r.l x.r.c, .bool x.d, .slice x.de.a x.de.l x.de.c] 35)).1
  generalize w.alloc _ = W at *
  constructor <;> simp [World.cell?, hb]

theorem below_alloc (w : World) (o : Obj) : Below w.heap.size w (w.alloc o) := (Below.refl _ _).alloc (Nat.le_refl _) o

def IPost (w : World) (e : Ending) (w' : World) : Prop := (∃ T : Int, e = .returned (.tuple #[.int .i64 T, .bool false]) ∧ w = w' ∧ 0 ≤ T ∧ T ≤ 1048576) ∨ (∃ T : Int, e = .returned (.tuple #[.int .i64 T, .bool true]) ∧ w = w')

theorem growI (T N : Int) (w : World) (h0 : 0 ≤ T) (hT : T ≤ 1048576) (hN : 0 ≤ N) (hn : N ≤ 4611686018427387904) : Calls Try.prog 19 #[.int .i64 T, .int .i64 N] w (IPost w) := by
  obtain ⟨t, rfl⟩ := Int.eq_ofNat_of_zero_le h0
  obtain ⟨n, rfl⟩ := Int.eq_ofNat_of_zero_le hN
  refine (grow t n w (by omega) (by omega)).mono ?_
  rintro e w' (⟨rfl, rfl, h⟩ | ⟨rfl, rfl⟩)
  · exact .inl ⟨_, rfl, rfl, by omega, by omega⟩
  · exact .inr ⟨_, rfl, rfl⟩
end Go.Proofs.Qxb6632526a
