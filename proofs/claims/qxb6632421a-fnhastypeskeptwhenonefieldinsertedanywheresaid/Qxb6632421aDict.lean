import Derived.Test.Qxb6632421aHas
namespace Go.Proofs.Qxb6632421a
open Go.RowKit

/-- at block p lies a Dict whose Fields are the row of block g, f's first len letters -/
structure DictAt (w : World) (p g len : Nat) (f : Nat → UInt8) : Prop where
  c0 : w.cell? ⟨p, 0, none⟩ = some (.slice none 0 0)
  c1 : w.cell? ⟨p, 1, none⟩ = some (.slice (some ⟨g, 0, none⟩) len len)
  c2 : w.cell? ⟨p, 2, none⟩ = some (.int .i64 0)
  row : w.rowIs g 32 (len * 2) (fldAt f len)

theorem DictAt.lt {w : World} {p g len : Nat} {f : Nat → UInt8} (h : DictAt w p g len f) : p < w.heap.size := World.block_lt_of_cell? w _ h.c0

theorem DictAt.below {w w' : World} {p g len : Nat} {f : Nat → UInt8} (h : DictAt w p g len f) (hb : Below w.heap.size w w') : DictAt w' p g len f :=
  ⟨(hb.cell (p := ⟨p, 0, none⟩) h.lt).trans h.c0, (hb.cell (p := ⟨p, 1, none⟩) h.lt).trans h.c1, (hb.cell (p := ⟨p, 2, none⟩) h.lt).trans h.c2, h.row.of_block (hb.block _ h.row.lt)⟩

theorem DictAt.born {w : World} {g len : Nat} {f : Nat → UInt8} (h : w.rowIs g 32 (len * 2) (fldAt f len)) :
    DictAt (w.alloc (.cells #[.slice none 0 0, .slice (some ⟨g, 0, none⟩) len len, .int .i64 0] 28)) w.heap.size g len f := by
  refine ⟨?_, ?_, ?_, h.alloc _⟩ <;> rw [cell_of_row _ _ _ _ _ _ (heap_alloc_new w _)] <;> rfl

theorem DictAt.alloc {w : World} {p g len : Nat} {f : Nat → UInt8} (h : DictAt w p g len f) (o : Obj) : DictAt (w.alloc o) p g len f :=
  h.below ((Below.refl _ _).alloc (Nat.le_refl _) _)

theorem DictAt.drewN {w : World} {p g len : Nat} {f : Nat → UInt8} (h : DictAt w p g len f) (n : Nat) : DictAt (w.drewN n) p g len f :=
  h.below (below_drewN (Below.refl _ _) n)

theorem has_dict {p g len : Nat} {f : Nat → UInt8} {s : ByteArray} {w : World} (hs : s.size ≤ 2097152) (hl : len ≤ 1048576) (h : DictAt w p g len f) :
    Calls Try.prog 7 #[.agg #[.slice none 0 0, .slice (some ⟨g, 0, none⟩) len len, .int .i64 0], .string s] w fun e w' => e = .returned (.bool (eqB f len s)) ∧ Below w.heap.size w w' :=
  has_any g len f s w hs hl h.row

end Go.Proofs.Qxb6632421a
