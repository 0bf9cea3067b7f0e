import Derived.Test.Qxb6632421aLaw
import Derived.Deep.RegionWith
import Derived.Deep.DrawnRows
import Derived.Maps.AppendAt
namespace Go.Proofs.Qxb6632421a
open Go.RowKit
attribute [local go_sem] Go.wp_at_zero Go.wp_at_succ

theorem Try.info5 : (Try.prog.info? 5).map (fun i => (i.zero, i.size, i.bytes)) = some (some (.int .u8 0), 1, 1) := by kernel_rfl

/-- the letters with c put in at pos -/
def put (f : Nat → UInt8) (pos : Nat) (c : UInt8) (i : Nat) : UInt8 := if i < pos then f i else if i = pos then c else f (i - 1)

/-- the cells of the first k letters -/
def cellsTo (h : Nat → UInt8) (k : Nat) : List Value := (List.range k).map fun i => .int .u8 (h i).toNat

theorem cellsTo_succ (h : Nat → UInt8) (k : Nat) : cellsTo h k ++ [.int .u8 (h k).toNat] = cellsTo h (k + 1) := by
  simp [cellsTo, List.range_succ]

theorem byte_oneCell (v : Int) : ∀ u ∈ [Value.int .u8 v], u.oneCell' = true := by
  intro u hu; simp at hu; subst hu; rfl

theorem cells_own {w : World} {B n cap : Nat} {h : Nat → UInt8} (ho : w.ownsRow B 5 1 (.slice (some ⟨B, 0, none⟩) n cap) n (cellsTo h n)) {i : Nat} (hi : i < n) : w.cell? ⟨B, 0 + i, none⟩ = some (.int .u8 (h i).toNat) := by
  rw [Nat.zero_add, ho.cellAt i (by omega)]
  simp [cellsTo, hi]

theorem one_byte (w : World) (c : UInt8) :
    (convert 22 9 (.slice (some ⟨w.heap.size, 0, none⟩) 1 1)).run Try.prog (w.alloc (.cells #[.int .u8 c.toNat] 5)).drew = .ok (.string (strOfNums [(c.toNat : Int)])) (w.alloc (.cells #[.int .u8 c.toNat] 5)).drew := by
  refine run_convert_bytes_arg (P := Try.prog) _ 22 5 Try.underlying22 Try.underlying5 w.heap.size 0 1 1 [(c.toNat : Int)] rfl (fun i hi => ?_) 9 Try.underlying9
  obtain rfl : i = 0 := by omega
  show (w.alloc (.cells #[.int .u8 c.toNat] 5)).cell? ⟨w.heap.size, 0, none⟩ = _
  rw [cell_of_row _ _ _ _ _ _ (heap_alloc_new w _)]
  rfl

end Go.Proofs.Qxb6632421a
