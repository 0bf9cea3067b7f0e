import Derived.Test.Qxb6632421aInsBase
namespace Go.Proofs.Qxb6632421a
open Go.RowKit
attribute [local go_sem] Go.wp_at_zero Go.wp_at_succ

set_option maxHeartbeats 1000000 in
theorem insIn_main (a : Option Addr) (len cap : Nat) (f : Nat → UInt8) (s : ByteArray) (p : Nat) (c : UInt8) (w : World) (hl : len ≤ 524288) (hs : s.size ≤ 524288)
    (hc : ∀ i, i < len → ∃ b off, a = some ⟨b, off, none⟩ ∧ w.cell? ⟨b, off + i, none⟩ = some (.int .u8 (f i).toNat)) (hp : p ≤ len) (hps : p ≤ s.size)
    (g st : Bool) (HG : Hid (eqB f len s = g)) (HA : Hid (eqB (put f p c) (len + 1) (s.extract 0 p ++ strOfNums [(c.toNat : Int)] ++ s.extract p s.size) = g)) (HS : Hid (eqB (put f p c) (len + 1) s = st)) (HI : Hid (g = true → st = false)) (hwant : ((strOfNums (List.map (fun i => ((f i).toNat : Int)) (List.range len))).toList == s.toList) = g) :
    Calls Try.prog 4 #[.slice a len cap, .string s, .int .i64 p, .int .u8 c.toNat] w fun e w' => e = .returned (.bool true) ∧ Below w.heap.size w w' := by
  obtain ⟨i0, hi, hz0, hz1, hz2⟩ := info_parts Try.info5
  go_enter Try.func4, Try.ntmps4
  go_wp2_with (first | (go_at_call 8; go_in) | (at_make; refine wpList_make_own _ rfl _ _ 22 rfl w.heap.size 5 i0 (.int .u8 0) 1 Try.underlying22 hi hz0 hz1 .i64 .i64 _ (len + 1) rfl rfl (by omega) (by rw [hz2]; omega) (by unfold maxLen; omega) (Nat.le_refl _) ?_; intro w1 hown1 hgr1))
  have hb1 : Below w.heap.size w w1 := (Below.refl _ _).grown hgr1 (Nat.le_refl _) (by intro k h; cases h)
  clear hgr1
  go_loopw [9, 10] (fun v i wr => ∃ k : Nat, k ≤ p ∧ i = .int .i64 k ∧ v = .slice (some ⟨w.heap.size, 0, none⟩) k (len + 1) ∧ wr.ownsRow w.heap.size 5 1 (.slice (some ⟨w.heap.size, 0, none⟩) k (len + 1)) k (cellsTo (put f p c) k) ∧ Below w.heap.size w wr)
    (fun _ i _ => p - (intOf i).toNat)
  case atStart => exact ⟨0, Nat.zero_le _, rfl, rfl, hown1, hb1⟩
  case round =>
    obtain ⟨k, hk, rfl, rfl, hown, hbel⟩ := hrel
    clear hown1 hb1
    by_cases hlt : k < p
    · obtain ⟨b, off, rfl, hck⟩ := hc k (by omega)
      have hcx : wr.cell? ⟨b, off + k, none⟩ = some (.int .u8 (f k).toNat) := (hbel.cell (World.block_lt_of_cell? w _ hck)).trans hck
      clear hck hc
      go_wp2_with (at_builtin; refine wpList_append_fits _ rfl (.tmp 48) (.tmp 53) 22 rfl w.heap.size 5 i0 1 Try.underlying22 hi hz1 w.heap.size k (len + 1) _ rfl (hown.alloc _) ⟨wr.heap.size, 0, none⟩ 1 1 [.int .u8 (f k).toNat] rfl rfl (cell_one_new _ _ _) (byte_oneCell _) (by omega) ?_; intro w2 hown2 hgr2)
      have hown3 : w2.ownsRow w.heap.size 5 1 (.slice (some ⟨w.heap.size, 0, none⟩) (k + 1) (len + 1)) (k + 1) (cellsTo (put f p c) (k + 1)) := by
        rw [← cellsTo_succ, show put f p c k = f k from if_pos hlt]
        exact hown2
      have hsz := hbel.size
      have hb2 : Below w.heap.size w w2 := (hbel.alloc hsz _).grown hgr2 (by simp; omega) (by intro j h; cases h; exact Nat.le_refl _)
      clear hown2 hgr2 hown
      go_wp2
      go_roundw
      case rel => exact ⟨k + 1, by omega, by go_num, rfl, hown3, hb2⟩
      case measure => simp [intOf]; omega
    · obtain rfl : k = p := by omega
      clear hlt
      go_wp2_with (at_builtin; refine wpList_append_fits _ rfl (.tmp 55) (.tmp 57) 22 rfl w.heap.size 5 i0 1 Try.underlying22 hi hz1 w.heap.size k (len + 1) _ rfl (hown.alloc _) ⟨wr.heap.size, 0, none⟩ 1 1 [.int .u8 c.toNat] rfl rfl (cell_one_new _ _ _) (byte_oneCell _) (by omega) ?_; intro w2 hown2 hgr2)
      have hown3 : w2.ownsRow w.heap.size 5 1 (.slice (some ⟨w.heap.size, 0, none⟩) (k + 1) (len + 1)) (k + 1) (cellsTo (put f k c) (k + 1)) := by
        rw [← cellsTo_succ, show put f k c k = c from by simp [put]]
        exact hown2
      have hsz := hbel.size
      have hb2 : Below w.heap.size w w2 := (hbel.alloc hsz _).grown hgr2 (by simp; omega) (by intro j h; cases h; exact Nat.le_refl _)
      clear hown2 hgr2 hown hbel hsz
      go_loopw [9, 11] (fun v i wr => ∃ q : Nat, k ≤ q ∧ q ≤ len ∧ i = .int .i64 q ∧ v = .slice (some ⟨w.heap.size, 0, none⟩) (q + 1) (len + 1) ∧ wr.ownsRow w.heap.size 5 1 (.slice (some ⟨w.heap.size, 0, none⟩) (q + 1) (len + 1)) (q + 1) (cellsTo (put f k c) (q + 1)) ∧ Below w.heap.size w wr)
        (fun _ i _ => len - (intOf i).toNat)
      case atStart => exact ⟨k, Nat.le_refl _, hp, rfl, rfl, hown3, hb2⟩
      case round =>
        obtain ⟨q, hkq, hql, rfl, rfl, hown, hbel⟩ := hrel
        clear hown3 hb2
        by_cases hlt : q < len
        · obtain ⟨b, off, rfl, hck⟩ := hc q hlt
          have hcx : wr.cell? ⟨b, off + q, none⟩ = some (.int .u8 (f q).toNat) := (hbel.cell (World.block_lt_of_cell? w _ hck)).trans hck
          clear hck hc
          go_wp2_with (at_builtin; refine wpList_append_fits _ rfl (.tmp 66) (.tmp 71) 22 rfl w.heap.size 5 i0 1 Try.underlying22 hi hz1 w.heap.size (q + 1) (len + 1) _ rfl (hown.alloc _) ⟨wr.heap.size, 0, none⟩ 1 1 [.int .u8 (f q).toNat] rfl rfl (cell_one_new _ _ _) (byte_oneCell _) (by omega) ?_; intro w3 hown4 hgr3)
          have hown5 : w3.ownsRow w.heap.size 5 1 (.slice (some ⟨w.heap.size, 0, none⟩) (q + 1 + 1) (len + 1)) (q + 1 + 1) (cellsTo (put f k c) (q + 1 + 1)) := by
            rw [← cellsTo_succ, show put f k c (q + 1) = f q from by unfold put; rw [if_neg (by omega), if_neg (by omega)]; rfl]
            exact hown4
          have hsz := hbel.size
          have hb3 : Below w.heap.size w w3 := (hbel.alloc hsz _).grown hgr3 (by simp; omega) (by intro j h; cases h; exact Nat.le_refl _)
          clear hown4 hgr3 hown
          go_wp2
          go_roundw
          case rel => exact ⟨q + 1, by omega, by omega, by go_num, rfl, hown5, hb3⟩
          case measure => simp [intOf]; omega
        · obtain rfl : q = len := by omega
          go_wp2_with fail
          have hcv1 := one_byte wr c
          have ht1 : (strOfNums [(c.toNat : Int)]).size = 1 := strOfNums_size _
          generalize hT : strOfNums [(c.toNat : Int)] = t1 at hcv1 ht1
          have HT : Hid (strOfNums [(c.toNat : Int)] = t1) := hT
          clear hT
          have hb4 : Below w.heap.size w (wr.alloc (.cells #[.int .u8 c.toNat] 5)).drew := (hbel.alloc hbel.size _).drew
          have hown4 := (hown.alloc (.cells #[.int .u8 c.toNat] 5)).drew
          have hg4 : Hid (_ ∧ _) := ⟨hb4, hown4⟩
          clear hb4 hown4 hown hbel
          go_region
          go_wp2_with fail
          clear hcv1
          generalize hW4 : (wr.alloc (.cells #[.int .u8 c.toNat] 5)).drew = W4 at *
          clear hW4
          refine (mk_fields _ q cap f _ (by omega) ?_).mono ?_
          · intro i hi
            obtain ⟨b, off, e, h⟩ := hc i hi
            exact ⟨b, off, e, (hg4.out.1.cell (World.block_lt_of_cell? w _ h)).trans h⟩
          rintro e w5 ⟨rfl, b5, r5⟩
          have d5 := DictAt.born r5
          have b5' := b5.alloc b5.size (.cells #[.slice none 0 0, .slice (some ⟨W4.heap.size, 0, none⟩) q q, .int .i64 0] 28)
          have hlt4 : w.heap.size < W4.heap.size := ((hg4.out.2.lt _ rfl).2)
          have H5 : Hid (_ ∧ _ ∧ _) := ⟨d5, hg4.out.1.trans (b5'.mono hg4.out.1.size), fun i (hi : i < q + 1) => (b5'.cell (p := ⟨w.heap.size, 0 + i, none⟩) hlt4).trans (cells_own hg4.out.2 hi)⟩
          clear d5 r5 b5 b5' hg4
          go_wp2_with fail
          generalize hW5 : w5.alloc _ = W5 at *
          clear hW5
          refine (mk_fields _ (q + 1) (q + 1) (put f k c) _ (by omega) ?_).mono ?_
          · exact fun i hi => ⟨_, 0, rfl, H5.out.2.2 i hi⟩
          rintro e w6 ⟨rfl, b6, r6⟩
          have d6 := DictAt.born r6
          have b6' := b6.alloc b6.size (.cells #[.slice none 0 0, .slice (some ⟨W5.heap.size, 0, none⟩) (q + 1) (q + 1), .int .i64 0] 28)
          have H6 : Hid (_ ∧ _ ∧ _) := ⟨d6, H5.out.1.below b6', H5.out.2.1.trans (b6'.mono H5.out.2.1.size)⟩
          clear d6 r6 b6 b6' H5
          have q0 := H6.out.2.1.c0
          have q1 := H6.out.2.1.c1
          have q2 := H6.out.2.1.c2
          go_wp2_with fail
          generalize hW6 : w6.alloc _ = W6 at *
          clear hW6 q0 q1 q2
          refine (has_dict_b (by omega) (by omega) H6.out.2.1 HG.out).mono ?_
          rintro e w7 ⟨rfl, b7⟩
          have H7 : Hid (_ ∧ _) := ⟨H6.out.1.below b7, H6.out.2.2.trans (b7.mono H6.out.2.2.size)⟩
          clear b7 H6
          have q0 := H7.out.1.c0
          have q1 := H7.out.1.c1
          have q2 := H7.out.1.c2
          go_wp2_with fail
          clear q0 q1 q2
          refine (has_dict_b (bb := g) (by simp [ht1]; omega) (by omega) H7.out.1 (by have h := HA.out; rw [HT.out] at h; exact h)).mono ?_
          rintro e w8 ⟨rfl, b8⟩
          have H8 : Hid (_ ∧ _) := ⟨H7.out.1.below b8, H7.out.2.trans (b8.mono H7.out.2.size)⟩
          clear b8 H7
          have q0 := H8.out.1.c0
          have q1 := H8.out.1.c1
          have q2 := H8.out.1.c2
          go_wp2_with fail
          clear q0 q1 q2
          refine (has_dict_b (by omega) (by omega) H8.out.1 HS.out).mono ?_
          rintro e w9 ⟨rfl, b9⟩
          have B9 : Hid (Below w.heap.size w w9) := H8.out.2.trans (b9.mono H8.out.2.size)
          clear b9 H8
          have hcv := convert_any (w := w9) (f := f) (a := a) (len := q) (cap := cap) (fun i hi => by
            obtain ⟨b, off, e, h⟩ := hc i hi
            exact ⟨b, off, e, (B9.out.cell (World.block_lt_of_cell? w _ h)).trans h⟩)
          cases g
          · go_wp2_with fail
            go_ret
            exact ⟨rfl, B9.out⟩
          · obtain rfl : st = false := HI.out rfl
            go_wp2_with fail
            go_ret
            exact ⟨rfl, B9.out⟩
end Go.Proofs.Qxb6632421a
