import Derived.Test.Qxb6632421aRows
import Derived.WalkKit
import Derived.ProofKit
import Derived.Deep.OwnRows
import Derived.Outline
namespace Go.Proofs.Qxb6632421a
open Go.RowKit

theorem Try.info32 : (Try.prog.info? 32).map (fun i => (i.zero, i.size, i.bytes)) = some (some (.agg #[.int .u8 0, .slice none 0 0]), 2, 32) := by kernel_rfl

/-- cell j of the row of fields behind k rounds -/
def fldAt (f : Nat → UInt8) (k : Nat) (j : Nat) : Value :=
  if j % 2 = 0 then (if j / 2 < k then .int .u8 (f (j / 2)).toNat else .int .u8 0) else .slice none 0 0

theorem rowIs_made2 (w : World) (z0 z1 : Value) (n : Nat) (t : TypeId) : (w.alloc (.cells (madeCells #[z0, z1] (n * 2)) t)).rowIs w.heap.size t (n * 2) (fun j => if j % 2 = 0 then z0 else z1) := by
  refine ⟨_, Go.Deep.blk_alloc_new _ _, size_madeCells _ _, fun i hi => ?_⟩
  have hm : i % 2 = 0 ∨ i % 2 = 1 := by omega
  rcases hm with h | h <;> simp [madeCells, hi, h]

theorem fldAt_zero (f : Nat → UInt8) (j : Nat) : (if j % 2 = 0 then Value.int .u8 0 else .slice none 0 0) = fldAt f 0 j := by
  unfold fldAt
  split <;> simp

theorem fld_step {w : World} {B t n k : Nat} {f : Nat → UInt8} (h : w.rowIs B t (n * 2) (fldAt f k))  :
    ((w.setCell ⟨B, k * 2, none⟩ (.int .u8 (f k).toNat)).setCell ⟨B, k * 2 + 1, none⟩ (.slice none 0 0)).rowIs B t (n * 2) (fldAt f (k + 1)) := by
  refine ((h.set (k * 2) _).set (k * 2 + 1) _).congr fun j hj => ?_
  unfold fldAt
  by_cases h1 : j = k * 2 + 1
  · rw [if_pos h1, if_neg (by omega)]
  · rw [if_neg h1]
    by_cases h2 : j = k * 2
    · rw [if_pos h2, if_pos (by omega), if_pos (by omega)]
      rw [show j / 2 = k from by omega]
    · rw [if_neg h2]
      by_cases h3 : j % 2 = 0
      · rw [if_pos h3, if_pos h3]
        by_cases h4 : j / 2 < k
        · rw [if_pos h4, if_pos (by omega)]
        · rw [if_neg h4, if_neg (by omega)]
      · rw [if_neg h3, if_neg h3]

set_option maxHeartbeats 400000 in
theorem mk_any (b off len cap : Nat) (f : Nat → UInt8) (w : World) (hl : len ≤ 1048576) (hc : ∀ i, i < len → w.cell? ⟨b, off + i, none⟩ = some (.int .u8 (f i).toNat)) :
    Calls Try.prog 6 #[.slice (some ⟨b, off, none⟩) len cap] w fun e w' => e = .returned (.slice (some ⟨w.heap.size, 0, none⟩) len len) ∧ Below w.heap.size w w' ∧ w'.rowIs w.heap.size 32 (len * 2) (fldAt f len) := by
  obtain ⟨i0, hi, hz0, hz1, hz2⟩ := info_parts Try.info32
  have hmk : ∀ w : World, (Instr.makeSlice 24 (.int .i64 (len : Int)) (.int .i64 (len : Int))).run Try.prog w = .ok (.slice (some ⟨w.heap.size, 0, none⟩) len len) (w.alloc (.cells (madeCells #[.int .u8 0, .slice none 0 0] (len * 2)) 32)) := by
    intro w
    have hr := run_make (P := Try.prog) w 24 32 i0 _ Try.underlying24 hi hz0 .i64 .i64 len len (by omega) (Int.le_refl _) (by rw [hz2]; omega) (by omega)
    simp only [Int.toNat_natCast, hz1] at hr
    exact hr
  have hst := (rowIs_made2 w (.int .u8 0) (.slice none 0 0) len 32).congr (fun j _ => fldAt_zero f j)
  have hbl : Below w.heap.size w (w.alloc (.cells (madeCells #[.int .u8 0, .slice none 0 0] (len * 2)) 32)) := (Below.refl _ _).alloc (Nat.le_refl _) _
  have HST : Hid (_ ∧ _) := ⟨hst, hbl⟩
  clear hst hbl hi hz0 hz1 hz2
  go_enter Try.func6, Try.ntmps6
  go_wp2
  clear hmk
  go_loopw [4] (fun i wr => ∃ k : Nat, k ≤ len ∧ i = .int .i64 k ∧ Below w.heap.size w wr ∧ wr.rowIs w.heap.size 32 (len * 2) (fldAt f k)) (fun i _ => len - (intOf i).toNat)
  case atStart => exact ⟨0, Nat.zero_le _, rfl, HST.out.2, HST.out.1⟩
  case round =>
    obtain ⟨k, hk, rfl, hbel, hrow⟩ := hrel
    by_cases hlt : k < len
    · have hck := hc k hlt
      have hcx : wr.cell? ⟨b, off + k, none⟩ = some (.int .u8 (f k).toNat) := (hbel.cell (World.block_lt_of_cell? w _ hck)).trans hck
      have c0 := hrow.cell (i := k * 2) (by omega)
      have c1 := hrow.cell (i := k * 2 + 1) (by omega)
      have f0 := hrow.frozen (k * 2)
      have f1 := hrow.frozen (k * 2 + 1)
      have hbel' := (hbel.setCell (p := ⟨w.heap.size, k * 2, none⟩) (Nat.le_refl _) (.int .u8 (f k).toNat)).setCell (p := ⟨w.heap.size, k * 2 + 1, none⟩) (Nat.le_refl _) (.slice none 0 0)
      have H : Hid (_ ∧ _) := ⟨hbel', fld_step hrow⟩
      clear hck hbel' hbel hrow
      go_wp2
      go_roundw
      case rel => exact ⟨k + 1, by omega, by go_num, H.out.1, H.out.2⟩
      case measure => simp [intOf]; omega
    · have hkl : k = len := by omega
      subst hkl
      go_wp2
      go_ret
      exact ⟨rfl, hbel, hrow⟩

/-- the empty slice, wherever it points -/
theorem mk_none (a : Option Addr) (cap : Nat) (f : Nat → UInt8) (w : World) :
    Calls Try.prog 6 #[.slice a 0 cap] w fun e w' => e = .returned (.slice (some ⟨w.heap.size, 0, none⟩) 0 0) ∧ Below w.heap.size w w' ∧ w'.rowIs w.heap.size 32 (0 * 2) (fldAt f 0) := by
  obtain ⟨i0, hi, hz0, hz1, hz2⟩ := info_parts Try.info32
  have hmk : ∀ w : World, (Instr.makeSlice 24 (.int .i64 0) (.int .i64 0)).run Try.prog w = .ok (.slice (some ⟨w.heap.size, 0, none⟩) 0 0) (w.alloc (.cells (madeCells #[.int .u8 0, .slice none 0 0] (0 * 2)) 32)) := by
    intro w
    have hr := run_make (P := Try.prog) w 24 32 i0 _ Try.underlying24 hi hz0 .i64 .i64 0 0 (by omega) (Int.le_refl _) (by rw [hz2]; omega) (by omega)
    simp only [Int.toNat_zero, hz1] at hr
    exact hr
  have hst := (rowIs_made2 w (.int .u8 0) (.slice none 0 0) 0 32).congr (fun j _ => fldAt_zero f j)
  have hbl : Below w.heap.size w (w.alloc (.cells (madeCells #[.int .u8 0, .slice none 0 0] (0 * 2)) 32)) := (Below.refl _ _).alloc (Nat.le_refl _) _
  have HST : Hid (_ ∧ _) := ⟨hst, hbl⟩
  clear hst hbl hi hz0 hz1 hz2
  go_enter Try.func6, Try.ntmps6
  go_wp2
  clear hmk
  refine wp_loop_rounds 1 ?_
  rw [rounds_succ]
  go_wp2
  go_ret
  exact ⟨rfl, HST.out.2, HST.out.1⟩
/-- mkFields, whatever slice it is handed: a new row of fields, one a byte -/
theorem mk_fields (a : Option Addr) (len cap : Nat) (f : Nat → UInt8) (w : World) (hl : len ≤ 1048576) (hc : ∀ i, i < len → ∃ b off, a = some ⟨b, off, none⟩ ∧ w.cell? ⟨b, off + i, none⟩ = some (.int .u8 (f i).toNat)) :
    Calls Try.prog 6 #[.slice a len cap] w fun e w' => e = .returned (.slice (some ⟨w.heap.size, 0, none⟩) len len) ∧ Below w.heap.size w w' ∧ w'.rowIs w.heap.size 32 (len * 2) (fldAt f len) := by
  by_cases h0 : len = 0
  · subst h0
    exact mk_none a cap f w
  · obtain ⟨b, off, rfl, _⟩ := hc 0 (by omega)
    refine mk_any b off len cap f w hl fun i hi => ?_
    obtain ⟨b', off', e, h⟩ := hc i hi
    simp only [Option.some.injEq, Addr.mk.injEq] at e
    obtain ⟨rfl, rfl, _⟩ := e
    exact h
end Go.Proofs.Qxb6632421a
