import Derived.Test.Qxb6634828aInsBase
namespace Go.Proofs.Qxb6634828a
open Go.RowKit

set_option maxHeartbeats 2000000 in
set_option maxRecDepth 100000 in
theorem ins_main (t : Int) (a : Option Addr) (len cap : Nat) (H : Nat → Hd) (p : Nat) (h : Hd) (w : World) (hl : len ≤ 32768)
    (hc : ∀ i, i < len → ∃ b off, a = some ⟨b, off, none⟩ ∧ HdAt w b (off + i * 4) (H i)) (hp : p ≤ len) (ht : Hid (wrap64 t = t)) :
    Calls Try.prog 4 #[.int .i64 t, .slice a len cap, .int .i64 p, .agg #[.int .i64 h.sh, .bool h.tr, .int .u8 h.ro, .int .i64 h.re]] w fun e w' => e = .returned (.bool true) ∧ Below w.heap.size w w' := by
  obtain ⟨i0, hi, hz0, hz1, hz2⟩ := info_parts Try.info43
  obtain ⟨X, hX⟩ : ∃ X : Obj, X = .cells #[.int .i64 h.sh, .bool h.tr, .int .u8 h.ro, .int .i64 h.re] 43 := ⟨_, rfl⟩
  have hb00 : Below w.heap.size w ((w.alloc X).alloc X) := ((Below.refl _ _).alloc (Nat.le_refl _) _).alloc (by simp) _
  have hbx : HdAt ((w.alloc X).alloc X) w.heap.size 0 h := by
    rw [hX]
    exact (hdAt_new43 w h).below ((Below.refl _ _).alloc (Nat.le_refl _) _) (by simp)
  rw [hX] at hb00 hbx
  have HB : Hid (_ ∧ _) := ⟨hbx, hb00⟩
  clear hbx hb00 hX X
  go_enter Try.func4, Try.ntmps4
  go_wp2_with (first | (go_at_call 9; go_in))
  generalize hW0 : (w.alloc _).alloc _ = W0 at *
  have H0 : Hid (Below w.heap.size w W0) := HB.out.2
  clear hW0
  refine (to_holders _ len cap H _ (by omega) ?_).mono ?_
  · intro i hi
    obtain ⟨b, off, e, k⟩ := hc i hi
    exact ⟨b, off, e, k.below H0.out (World.block_lt_of_cell? w _ k.c0)⟩
  rintro e w1 ⟨rfl, b1, r1⟩
  have H1 : Hid (RowH w1 W0.heap.size len H ∧ Below w.heap.size w w1 ∧ HdAt w1 w.heap.size 0 h) := ⟨r1, H0.out.trans (b1.mono H0.out.size), HB.out.1.below b1 (World.block_lt_of_cell? W0 _ HB.out.1.c0)⟩
  clear b1 r1 HB H0
  have HC : Hid (∀ i, i < len → ∃ b off, a = some ⟨b, off, none⟩ ∧ b < w1.heap.size ∧ HdAt w1 b (off + i * 4) (H i)) := by
    intro i hi
    obtain ⟨b, off, e, k⟩ := hc i hi
    have hb := World.block_lt_of_cell? w _ k.c0
    exact ⟨b, off, e, Nat.lt_of_lt_of_le hb H1.out.2.1.size, k.below H1.out.2.1 hb⟩
  clear hc
  go_wp2_with (at_make; refine wpList_make_own _ rfl _ _ 22 rfl w1.heap.size 43 i0 _ 4 Try.underlying22 hi hz0 hz1 .i64 .i64 _ (len + 1) rfl rfl (by omega) (by rw [hz2]; omega) (by unfold maxLen; omega) (Nat.le_refl _) ?_; intro w2 hown2 hgr2)
  have hb2 : Below w1.heap.size w1 w2 := (Below.refl _ _).grown hgr2 (Nat.le_refl _) (by intro k h; cases h)
  clear hgr2
  go_loopw [10, 11] (fun v i wr => ∃ k : Nat, k ≤ p ∧ i = .int .i64 k ∧ v = .slice (some ⟨w1.heap.size, 0, none⟩) k (len + 1) ∧ wr.ownsRow w1.heap.size 43 4 (.slice (some ⟨w1.heap.size, 0, none⟩) k (len + 1)) k (cellsTo (put H p h) k) ∧ Below w1.heap.size w1 wr)
    (fun _ i _ => p - (intOf i).toNat)
  case atStart => exact ⟨0, Nat.zero_le _, rfl, rfl, hown2, hb2⟩
  case round =>
    obtain ⟨k, hk, rfl, rfl, hown, hbel⟩ := hrel
    clear hown2 hb2
    by_cases hlt : k < p
    · obtain ⟨b, off, rfl, hbs, hck⟩ := HC.out k (by omega)
      have hcx := hck.below hbel hbs
      have x0 := hcx.c0
      have x1 := hcx.c1
      have x2 := hcx.c2
      have x3 := hcx.c3
      clear hck HC hcx
      go_wp2_with (at_builtin; refine wpList_append_fits _ rfl (.tmp 45) (.tmp 50) 22 rfl w1.heap.size 43 i0 4 Try.underlying22 hi hz1 w1.heap.size k (len + 1) _ rfl (hown.alloc _) ⟨wr.heap.size, 0, none⟩ 1 1 (H k).row rfl rfl (row_new _ _) (row_oneCell _) (by omega) ?_; intro w3 hown3 hgr3)
      have hown4 : w3.ownsRow w1.heap.size 43 4 (.slice (some ⟨w1.heap.size, 0, none⟩) (k + 1) (len + 1)) (k + 1) (cellsTo (put H p h) (k + 1)) := by
        rw [← cellsTo_succ, show put H p h k = H k from if_pos hlt]
        exact hown3
      have hb3 : Below w1.heap.size w1 w3 := (hbel.alloc hbel.size _).grown hgr3 (by have := hbel.size; simp; omega) (by intro j h; cases h; exact Nat.le_refl _)
      clear hown3 hgr3 hown hbel
      go_wp2
      go_roundw
      case rel => exact ⟨k + 1, by omega, by go_num, rfl, hown4, hb3⟩
      case measure => simp [intOf]; omega
    · obtain rfl : k = p := by omega
      clear hlt
      have hbx := H1.out.2.2.below hbel (Nat.lt_of_lt_of_le (World.block_lt_of_cell? w1 _ H1.out.2.2.c0) (Nat.le_refl _))
      have y0 := hbx.c0
      have y1 : wr.cell? ⟨w.heap.size, 1, none⟩ = _ := hbx.c1
      have y2 : wr.cell? ⟨w.heap.size, 2, none⟩ = _ := hbx.c2
      have y3 : wr.cell? ⟨w.heap.size, 3, none⟩ = _ := hbx.c3
      clear hbx
      go_wp2_with (at_builtin; refine wpList_append_fits _ rfl (.tmp 52) (.tmp 54) 22 rfl w1.heap.size 43 i0 4 Try.underlying22 hi hz1 w1.heap.size k (len + 1) _ rfl (hown.alloc _) ⟨wr.heap.size, 0, none⟩ 1 1 h.row rfl rfl (row_new _ _) (row_oneCell _) (by omega) ?_; intro w3 hown3 hgr3)
      have hown4 : w3.ownsRow w1.heap.size 43 4 (.slice (some ⟨w1.heap.size, 0, none⟩) (k + 1) (len + 1)) (k + 1) (cellsTo (put H k h) (k + 1)) := by
        rw [← cellsTo_succ, show put H k h k = h from by simp [put]]
        exact hown3
      have hb3 : Below w1.heap.size w1 w3 := (hbel.alloc hbel.size _).grown hgr3 (by have := hbel.size; simp; omega) (by intro j h; cases h; exact Nat.le_refl _)
      clear hown3 hgr3 hown hbel y0 y1 y2 y3
      go_loopw [10, 12] (fun v i wr => ∃ q : Nat, k ≤ q ∧ q ≤ len ∧ i = .int .i64 q ∧ v = .slice (some ⟨w1.heap.size, 0, none⟩) (q + 1) (len + 1) ∧ wr.ownsRow w1.heap.size 43 4 (.slice (some ⟨w1.heap.size, 0, none⟩) (q + 1) (len + 1)) (q + 1) (cellsTo (put H k h) (q + 1)) ∧ Below w1.heap.size w1 wr)
        (fun _ i _ => len - (intOf i).toNat)
      case atStart => exact ⟨k, Nat.le_refl _, hp, rfl, rfl, hown4, hb3⟩
      case round =>
        obtain ⟨q, hkq, hql, rfl, rfl, hown, hbel⟩ := hrel
        clear hown4 hb3
        by_cases hlt : q < len
        · obtain ⟨b, off, rfl, hbs, hck⟩ := HC.out q hlt
          have hcx := hck.below hbel hbs
          have x0 := hcx.c0
          have x1 := hcx.c1
          have x2 := hcx.c2
          have x3 := hcx.c3
          clear hck HC hcx
          go_wp2_with (at_builtin; refine wpList_append_fits _ rfl (.tmp 63) (.tmp 68) 22 rfl w1.heap.size 43 i0 4 Try.underlying22 hi hz1 w1.heap.size (q + 1) (len + 1) _ rfl (hown.alloc _) ⟨wr.heap.size, 0, none⟩ 1 1 (H q).row rfl rfl (row_new _ _) (row_oneCell _) (by omega) ?_; intro w4 hown5 hgr4)
          have hown6 : w4.ownsRow w1.heap.size 43 4 (.slice (some ⟨w1.heap.size, 0, none⟩) (q + 1 + 1) (len + 1)) (q + 1 + 1) (cellsTo (put H k h) (q + 1 + 1)) := by
            rw [← cellsTo_succ, show put H k h (q + 1) = H q from by unfold put; rw [if_neg (by omega), if_neg (by omega)]; rfl]
            exact hown5
          have hb4 : Below w1.heap.size w1 w4 := (hbel.alloc hbel.size _).grown hgr4 (by have := hbel.size; simp; omega) (by intro j h; cases h; exact Nat.le_refl _)
          clear hown5 hgr4 hown hbel
          go_wp2
          go_roundw
          case rel => exact ⟨q + 1, by omega, by omega, by go_num, rfl, hown6, hb4⟩
          case measure => simp [intOf]; omega
        · obtain rfl : q = len := by omega
          have H4 : Hid (RowH wr W0.heap.size q H ∧ Below w.heap.size w wr ∧ HdAt wr w.heap.size 0 h) := ⟨H1.out.1.below hbel, H1.out.2.1.trans (hbel.mono H1.out.2.1.size), H1.out.2.2.below hbel (World.block_lt_of_cell? w1 _ H1.out.2.2.c0)⟩
          have HO : Hid (∀ i, i < q + 1 → ∃ b off, some (⟨w1.heap.size, 0, none⟩ : Addr) = some ⟨b, off, none⟩ ∧ HdAt wr b (off + i * 4) (put H k h i)) := fun i hi => ⟨_, 0, rfl, hd_own hown hi⟩
          have hv : Hid (vs t (put H k h) (q + 1) = wrap64 (vs t H q - h.non)) := vs_put t H h ht.out hkq
          clear hown hbel H1 HC
          go_wp2_with fail
          refine (to_holders _ (q + 1) (q + 1) (put H k h) _ (by omega) HO.out).mono ?_
          rintro e w5 ⟨rfl, b5, r5⟩
          have H5 : Hid (RowH w5 wr.heap.size (q + 1) (put H k h) ∧ RowH w5 W0.heap.size q H ∧ Below w.heap.size w w5 ∧ HdAt w5 w.heap.size 0 h) := ⟨r5, H4.out.1.below b5, H4.out.2.1.trans (b5.mono H4.out.2.1.size), H4.out.2.2.below b5 (World.block_lt_of_cell? wr _ H4.out.2.2.c0)⟩
          clear b5 r5 H4 HO
          go_wp2_with fail
          refine (vs_nil t _ _ ?_ ?_).mono ?_
          · rw [cell_of_row _ _ _ _ _ _ (heap_alloc_new _ _)]; rfl
          · rw [cell_of_row _ _ _ _ _ _ (heap_alloc_new _ _)]; rfl
          rintro e w6 ⟨rfl, b6⟩
          have b6' := (Below.alloc (Below.refl w5.heap.size w5) (Nat.le_refl _) _).trans (b6.mono (by simp))
          have H6 : Hid (RowH w6 wr.heap.size (q + 1) (put H k h) ∧ RowH w6 W0.heap.size q H ∧ Below w.heap.size w w6 ∧ HdAt w6 w.heap.size 0 h) := ⟨H5.out.1.below b6', H5.out.2.1.below b6', H5.out.2.2.1.trans (b6'.mono H5.out.2.2.1.size), H5.out.2.2.2.below b6' (World.block_lt_of_cell? w5 _ H5.out.2.2.2.c0)⟩
          clear b6 b6' H5
          go_wp2_with fail
          refine (vs_row t H _ W0.heap.size q _ (by omega) ?_ ?_ (H6.out.2.1.alloc _)).mono ?_
          · rw [cell_of_row _ _ _ _ _ _ (heap_alloc_new _ _)]; rfl
          · rw [cell_of_row _ _ _ _ _ _ (heap_alloc_new _ _)]; rfl
          rintro e w7 ⟨rfl, b7⟩
          have b7' := (Below.alloc (Below.refl w6.heap.size w6) (Nat.le_refl _) _).trans (b7.mono (by simp))
          have H7 : Hid (RowH w7 wr.heap.size (q + 1) (put H k h) ∧ Below w.heap.size w w7 ∧ HdAt w7 w.heap.size 0 h) := ⟨H6.out.1.below b7', H6.out.2.2.1.trans (b7'.mono H6.out.2.2.1.size), H6.out.2.2.2.below b7' (World.block_lt_of_cell? w6 _ H6.out.2.2.2.c0)⟩
          clear b7 b7' H6
          go_wp2_with fail
          refine (vs_row t (put H k h) _ wr.heap.size (q + 1) _ (by omega) ?_ ?_ (H7.out.1.alloc _)).mono ?_
          · rw [cell_of_row _ _ _ _ _ _ (heap_alloc_new _ _)]; rfl
          · rw [cell_of_row _ _ _ _ _ _ (heap_alloc_new _ _)]; rfl
          rintro e w8 ⟨rfl, b8⟩
          have b8' := (Below.alloc (Below.refl w7.heap.size w7) (Nat.le_refl _) _).trans (b8.mono (by simp))
          have H8 : Hid (Below w.heap.size w w8 ∧ HdAt w8 w.heap.size 0 h) := ⟨H7.out.2.1.trans (b8'.mono H7.out.2.1.size), H7.out.2.2.below b8' (World.block_lt_of_cell? w7 _ H7.out.2.2.c0)⟩
          clear b8 b8' H7
          have heq : (vs t (put H k h) (q + 1) == wrap64 (vs t H q - h.non)) = true := by rw [hv.out]; simp
          generalize vs t (put H k h) (q + 1) = A at *
          generalize vs t H q = A1 at *
          have y0 := H8.out.2.c0
          have y1 : w8.cell? ⟨w.heap.size, 1, none⟩ = _ := H8.out.2.c1
          have y2 : w8.cell? ⟨w.heap.size, 2, none⟩ = _ := H8.out.2.c2
          have y3 : w8.cell? ⟨w.heap.size, 3, none⟩ = _ := H8.out.2.c3
          go_wp2_with fail
          refine (non_any h _).mono ?_
          rintro e w9 ⟨rfl, b9⟩
          clear y0 y1 y2 y3
          go_wp2_with fail
          go_ret
          exact ⟨rfl, H8.out.1.trans (b9.mono H8.out.1.size)⟩
end Go.Proofs.Qxb6634828a
