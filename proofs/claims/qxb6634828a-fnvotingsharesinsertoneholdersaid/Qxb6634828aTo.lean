import Derived.Test.Qxb6634828aVot
import Derived.BigRegion
namespace Go.Proofs.Qxb6634828a
open Go.RowKit

theorem Try.info41 : (Try.prog.info? 41).map (fun i => (i.zero, i.size, i.bytes)) = some (some (.agg #[.int .i64 0, .bool false, .int .u8 0, .int .i64 0]), 4, 24) := by kernel_rfl

/-- the r-th cell of a holder -/
def Hd.fld (h : Hd) (r : Nat) : Value := if r = 0 then .int .i64 h.sh else if r = 1 then .bool h.tr else if r = 2 then .int .u8 h.ro else .int .i64 h.re

def Hd.zero : Hd := ⟨0, false, 0, 0⟩

/-- cell j of the row of holders behind k rounds -/
def hdCell (H : Nat → Hd) (k j : Nat) : Value := (if j / 4 < k then H (j / 4) else Hd.zero).fld (j % 4)

theorem mod4 (i : Nat) : i % 4 = 0 ∨ i % 4 = 1 ∨ i % 4 = 2 ∨ i % 4 = 3 := by omega

theorem rowIs_made4 (w : World) (H : Nat → Hd) (n : Nat) (t : TypeId) : (w.alloc (.cells (madeCells #[.int .i64 0, .bool false, .int .u8 0, .int .i64 0] (n * 4)) t)).rowIs w.heap.size t (n * 4) (hdCell H 0) := by
  refine ⟨_, Go.Deep.blk_alloc_new _ _, size_madeCells _ _, fun i hi => ?_⟩
  rcases mod4 i with h | h | h | h <;> simp [madeCells, hi, h, hdCell, Hd.fld, Hd.zero]

theorem hd_step {w : World} {B t n k : Nat} {H : Nat → Hd} (h : w.rowIs B t (n * 4) (hdCell H k)) :
    ((((w.setCell ⟨B, k * 4, none⟩ (.int .i64 (H k).sh)).setCell ⟨B, k * 4 + 1, none⟩ (.bool (H k).tr)).setCell ⟨B, k * 4 + 2, none⟩ (.int .u8 (H k).ro)).setCell ⟨B, k * 4 + 3, none⟩ (.int .i64 (H k).re)).rowIs B t (n * 4) (hdCell H (k + 1)) := by
  refine ((((h.set (k * 4) _).set (k * 4 + 1) _).set (k * 4 + 2) _).set (k * 4 + 3) _).congr fun j hj => ?_
  unfold hdCell
  by_cases hk : j / 4 = k
  · have e : j = k * 4 ∨ j = k * 4 + 1 ∨ j = k * 4 + 2 ∨ j = k * 4 + 3 := by omega
    rw [if_pos (show j / 4 < k + 1 by omega), hk]
    rcases e with rfl | rfl | rfl | rfl
    · simp [Hd.fld]
    · simp [Hd.fld]
    · simp [Hd.fld]
    · simp [Hd.fld]
  · rw [if_neg (by omega), if_neg (by omega), if_neg (by omega), if_neg (by omega)]
    by_cases h4 : j / 4 < k
    · rw [if_pos h4, if_pos (by omega)]
    · rw [if_neg h4, if_neg (by omega)]

theorem hdAt_row {w : World} {B t n : Nat} {H : Nat → Hd} (h : w.rowIs B t (n * 4) (hdCell H n)) {i : Nat} (hi : i < n) : HdAt w B (i * 4) (H i) := by
  have q : ∀ r, r < 4 → w.cell? ⟨B, i * 4 + r, none⟩ = some ((H i).fld r) := by
    intro r hr
    rw [h.cell (i := i * 4 + r) (by omega)]
    unfold hdCell
    rw [show (i * 4 + r) / 4 = i from by omega, if_pos hi, show (i * 4 + r) % 4 = r from by omega]
  exact ⟨q 0 (by omega), q 1 (by omega), q 2 (by omega), q 3 (by omega)⟩

set_option maxHeartbeats 1000000 in
theorem to_any (b off len cap : Nat) (H : Nat → Hd) (w : World) (hl : len ≤ 1048576) (hc : ∀ i, i < len → HdAt w b (off + i * 4) (H i)) :
    Calls Try.prog 6 #[.slice (some ⟨b, off, none⟩) len cap] w fun e w' => e = .returned (.slice (some ⟨w.heap.size, 0, none⟩) len len) ∧ Below w.heap.size w w' ∧ w'.rowIs w.heap.size 41 (len * 4) (hdCell H len) := by
  obtain ⟨i0, hi, hz0, hz1, hz2⟩ := info_parts Try.info41
  have hmk : ∀ w : World, (Instr.makeSlice 24 (.int .i64 (len : Int)) (.int .i64 (len : Int))).run Try.prog w = .ok (.slice (some ⟨w.heap.size, 0, none⟩) len len) (w.alloc (.cells (madeCells #[.int .i64 0, .bool false, .int .u8 0, .int .i64 0] (len * 4)) 41)) := by
    intro w
    have hr := run_make (P := Try.prog) w 24 41 i0 _ Try.underlying24 hi hz0 .i64 .i64 len len (by omega) (Int.le_refl _) (by rw [hz2]; omega) (by omega)
    simp only [Int.toNat_natCast, hz1] at hr
    exact hr
  have hst := rowIs_made4 w H len 41
  have hbl : Below w.heap.size w (w.alloc (.cells (madeCells #[.int .i64 0, .bool false, .int .u8 0, .int .i64 0] (len * 4)) 41)) := (Below.refl _ _).alloc (Nat.le_refl _) _
  have HST : Hid (_ ∧ _) := ⟨hst, hbl⟩
  clear hst hbl hi hz0 hz1 hz2
  go_enter Try.func6, Try.ntmps6
  go_wp2
  clear hmk
  go_loopw [4] (fun i wr => ∃ k : Nat, k ≤ len ∧ i = .int .i64 k ∧ Below w.heap.size w wr ∧ wr.rowIs w.heap.size 41 (len * 4) (hdCell H k)) (fun i _ => len - (intOf i).toNat)
  case atStart => exact ⟨0, Nat.zero_le _, rfl, HST.out.2, HST.out.1⟩
  case round =>
    obtain ⟨k, hk, rfl, hbel, hrow⟩ := hrel
    by_cases hlt : k < len
    · have hck := hc k hlt
      have hb : b < w.heap.size := World.block_lt_of_cell? w _ hck.c0
      have x0 := (hbel.cell (p := ⟨b, off + k * 4, none⟩) hb).trans hck.c0
      have x1 := (hbel.cell (p := ⟨b, off + k * 4 + 1, none⟩) hb).trans hck.c1
      have x2 := (hbel.cell (p := ⟨b, off + k * 4 + 2, none⟩) hb).trans hck.c2
      have x3 := (hbel.cell (p := ⟨b, off + k * 4 + 3, none⟩) hb).trans hck.c3
      have c0 := hrow.cell (i := k * 4) (by omega)
      have c1 := hrow.cell (i := k * 4 + 1) (by omega)
      have c2 := hrow.cell (i := k * 4 + 2) (by omega)
      have c3 := hrow.cell (i := k * 4 + 3) (by omega)
      have f0 := hrow.frozen (k * 4)
      have f1 := hrow.frozen (k * 4 + 1)
      have f2 := hrow.frozen (k * 4 + 2)
      have f3 := hrow.frozen (k * 4 + 3)
      have hki : (k : Int) < (len : Int) := by omega
      have hk0 : (0 : Int) ≤ (k : Int) := by omega
      have hb4 := (((hbel.setCell (p := ⟨w.heap.size, k * 4, none⟩) (Nat.le_refl _) (.int .i64 (H k).sh)).setCell (p := ⟨w.heap.size, k * 4 + 1, none⟩) (Nat.le_refl _) (.bool (H k).tr)).setCell (p := ⟨w.heap.size, k * 4 + 2, none⟩) (Nat.le_refl _) (.int .u8 (H k).ro)).setCell (p := ⟨w.heap.size, k * 4 + 3, none⟩) (Nat.le_refl _) (.int .i64 (H k).re)
      have H' : Hid (_ ∧ _) := ⟨hb4.drew, (hd_step hrow).drew⟩
      clear hb4
      clear hck hbel hrow hc
      go_wp2
      go_region
      go_wp2
      go_roundw
      case rel => exact ⟨k + 1, by omega, by go_num, H'.out.1, H'.out.2⟩
      case measure => simp [intOf]; omega
    · obtain rfl : k = len := by omega
      go_wp2
      go_ret
      exact ⟨rfl, hbel, hrow⟩

/-- the empty slice, wherever it points -/
theorem to_none (a : Option Addr) (cap : Nat) (H : Nat → Hd) (w : World) :
    Calls Try.prog 6 #[.slice a 0 cap] w fun e w' => e = .returned (.slice (some ⟨w.heap.size, 0, none⟩) 0 0) ∧ Below w.heap.size w w' ∧ w'.rowIs w.heap.size 41 (0 * 4) (hdCell H 0) := by
  obtain ⟨i0, hi, hz0, hz1, hz2⟩ := info_parts Try.info41
  have hmk : ∀ w : World, (Instr.makeSlice 24 (.int .i64 0) (.int .i64 0)).run Try.prog w = .ok (.slice (some ⟨w.heap.size, 0, none⟩) 0 0) (w.alloc (.cells (madeCells #[.int .i64 0, .bool false, .int .u8 0, .int .i64 0] (0 * 4)) 41)) := by
    intro w
    have hr := run_make (P := Try.prog) w 24 41 i0 _ Try.underlying24 hi hz0 .i64 .i64 0 0 (by omega) (Int.le_refl _) (by rw [hz2]; omega) (by omega)
    simp only [Int.toNat_zero, hz1] at hr
    exact hr
  have hst := rowIs_made4 w H 0 41
  have hbl : Below w.heap.size w (w.alloc (.cells (madeCells #[.int .i64 0, .bool false, .int .u8 0, .int .i64 0] (0 * 4)) 41)) := (Below.refl _ _).alloc (Nat.le_refl _) _
  have HST : Hid (_ ∧ _) := ⟨hst, hbl⟩
  clear hst hbl hi hz0 hz1 hz2
  go_enter Try.func6, Try.ntmps6
  go_wp2
  clear hmk
  refine wp_loop_rounds 1 ?_
  rw [rounds_succ]
  go_wp2
  go_ret
  exact ⟨rfl, HST.out.2, HST.out.1⟩

/-- zzToHolders, whatever slice it is handed -/
theorem to_holders (a : Option Addr) (len cap : Nat) (H : Nat → Hd) (w : World) (hl : len ≤ 1048576) (hc : ∀ i, i < len → ∃ b off, a = some ⟨b, off, none⟩ ∧ HdAt w b (off + i * 4) (H i)) :
    Calls Try.prog 6 #[.slice a len cap] w fun e w' => e = .returned (.slice (some ⟨w.heap.size, 0, none⟩) len len) ∧ Below w.heap.size w w' ∧ w'.rowIs w.heap.size 41 (len * 4) (hdCell H len) := by
  by_cases h0 : len = 0
  · subst h0
    exact to_none a cap H w
  · obtain ⟨b, off, rfl, _⟩ := hc 0 (by omega)
    refine to_any b off len cap H w hl fun i hi => ?_
    obtain ⟨b', off', e, h⟩ := hc i hi
    simp only [Option.some.injEq, Addr.mk.injEq] at e
    obtain ⟨rfl, rfl, _⟩ := e
    exact h
end Go.Proofs.Qxb6634828a
