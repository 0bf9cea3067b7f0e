import Derived.Test.Qxb6634828aMeet
namespace Go.Proofs.Qxb6634828a
open Go.RowKit

set_option maxHeartbeats 2000000 in
theorem cutLt (t : Int) (b off len cap : Nat) (H : Nat → Hd) (k : Nat) (w : World) (hl : len ≤ 32768) (hcap : cap ≤ 9223372036854775807) (hlc : len ≤ cap)
    (hc : ∀ i, i < len → HdAt w b (off + i * 4) (H i)) (hk : k < len) (ht : Hid (wrap64 t = t)) :
    Calls Try.prog 3 #[.int .i64 t, .slice (some ⟨b, off, none⟩) len cap, .int .i64 k] w fun e w' => e = .returned (.bool true) ∧ Below w.heap.size w w' := by
  have hbw : b < w.heap.size := World.block_lt_of_cell? w _ (hc 0 (by omega)).c0
  have hv : Hid (vs t H len = wrap64 (vs t H k + vs 0 (fun i => H (k + i)) (len - k))) := vs_cut t H ht.out (by omega)
  have ho : Hid (vs 0 (fun i => H (k + i)) 1 = wrap64 ((H k).vot - (H k).sh)) := vs_one (fun i => H (k + i))
  go_enter Try.func3, Try.ntmps3
  go_wp2_with (first | (go_at_call 5; go_in))
  refine (to_holders _ len cap H _ (by omega) ?_).mono ?_
  · exact fun i hi => ⟨b, off, rfl, hc i hi⟩
  rintro e w1 ⟨rfl, b1, r1⟩
  have H1 : Hid (RowH w1 w.heap.size len H ∧ Below w.heap.size w w1) := ⟨r1, b1⟩
  clear b1 r1
  go_wp2_with fail
  refine (to_holders _ k cap H _ (by omega) ?_).mono ?_
  · exact fun i hi => ⟨b, off, rfl, (hc i (by omega)).below H1.out.2 hbw⟩
  rintro e w2 ⟨rfl, b2, r2⟩
  have H2 : Hid (RowH w2 w1.heap.size k H ∧ RowH w2 w.heap.size len H ∧ Below w.heap.size w w2) := ⟨r2, H1.out.1.below b2, H1.out.2.trans (b2.mono H1.out.2.size)⟩
  clear b2 r2 H1
  go_wp2_with fail
  refine (to_holders _ (len - k) _ (fun i => H (k + i)) _ (by omega) ?_).mono ?_
  · exact fun i hi => ⟨b, off + k * 4, rfl, by rw [show off + k * 4 + i * 4 = off + (k + i) * 4 from by omega]; exact (hc (k + i) (by omega)).below H2.out.2.2 hbw⟩
  rintro e w3 ⟨rfl, b3, r3⟩
  have H3 : Hid (RowH w3 w2.heap.size (len - k) (fun i => H (k + i)) ∧ RowH w3 w1.heap.size k H ∧ RowH w3 w.heap.size len H ∧ Below w.heap.size w w3) := ⟨r3, H2.out.1.below b3, H2.out.2.1.below b3, H2.out.2.2.trans (b3.mono H2.out.2.2.size)⟩
  clear b3 r3 H2
  go_wp2_with fail
  refine (vs_nil t _ _ ?_ ?_).mono ?_
  · rw [cell_of_row _ _ _ _ _ _ (heap_alloc_new _ _)]; rfl
  · rw [cell_of_row _ _ _ _ _ _ (heap_alloc_new _ _)]; rfl
  rintro e w4 ⟨rfl, b4⟩
  have b4' := (Below.alloc (Below.refl w3.heap.size w3) (Nat.le_refl _) _).trans (b4.mono (by simp))
  have H4 : Hid (RowH w4 w2.heap.size (len - k) (fun i => H (k + i)) ∧ RowH w4 w1.heap.size k H ∧ RowH w4 w.heap.size len H ∧ Below w.heap.size w w4) := ⟨H3.out.1.below b4', H3.out.2.1.below b4', H3.out.2.2.1.below b4', H3.out.2.2.2.trans (b4'.mono H3.out.2.2.2.size)⟩
  clear b4 b4' H3
  go_wp2_with fail
  refine (vs_row t H _ w.heap.size len _ (by omega) ?_ ?_ (H4.out.2.2.1.alloc _)).mono ?_
  · rw [cell_of_row _ _ _ _ _ _ (heap_alloc_new _ _)]; rfl
  · rw [cell_of_row _ _ _ _ _ _ (heap_alloc_new _ _)]; rfl
  rintro e w5 ⟨rfl, b5⟩
  have b5' := (Below.alloc (Below.refl w4.heap.size w4) (Nat.le_refl _) _).trans (b5.mono (by simp))
  have H5 : Hid (RowH w5 w2.heap.size (len - k) (fun i => H (k + i)) ∧ RowH w5 w1.heap.size k H ∧ RowH w5 w.heap.size len H ∧ Below w.heap.size w w5) := ⟨H4.out.1.below b5', H4.out.2.1.below b5', H4.out.2.2.1.below b5', H4.out.2.2.2.trans (b5'.mono H4.out.2.2.2.size)⟩
  clear b5 b5' H4
  go_wp2_with fail
  refine (vs_row t H _ w1.heap.size k _ (by omega) ?_ ?_ (H5.out.2.1.alloc _)).mono ?_
  · rw [cell_of_row _ _ _ _ _ _ (heap_alloc_new _ _)]; rfl
  · rw [cell_of_row _ _ _ _ _ _ (heap_alloc_new _ _)]; rfl
  rintro e w6 ⟨rfl, b6⟩
  have b6' := (Below.alloc (Below.refl w5.heap.size w5) (Nat.le_refl _) _).trans (b6.mono (by simp))
  have H6 : Hid (RowH w6 w2.heap.size (len - k) (fun i => H (k + i)) ∧ RowH w6 w.heap.size len H ∧ Below w.heap.size w w6) := ⟨H5.out.1.below b6', H5.out.2.2.1.below b6', H5.out.2.2.2.trans (b6'.mono H5.out.2.2.2.size)⟩
  clear b6 b6' H5
  go_wp2_with fail
  refine (vs_row 0 (fun i => H (k + i)) _ w2.heap.size (len - k) _ (by omega) ?_ ?_ (H6.out.1.alloc _)).mono ?_
  · rw [cell_of_row _ _ _ _ _ _ (heap_alloc_new _ _)]; rfl
  · rw [cell_of_row _ _ _ _ _ _ (heap_alloc_new _ _)]; rfl
  rintro e w7 ⟨rfl, b7⟩
  have b7' := (Below.alloc (Below.refl w6.heap.size w6) (Nat.le_refl _) _).trans (b7.mono (by simp))
  have H7 : Hid (RowH w7 w.heap.size len H ∧ Below w.heap.size w w7) := ⟨H6.out.2.1.below b7', H6.out.2.2.trans (b7'.mono H6.out.2.2.size)⟩
  clear b7 b7' H6
  have hne : (vs t H len != wrap64 (vs t H k + vs 0 (fun i => H (k + i)) (len - k))) = false := by rw [← hv.out]; simp
  generalize vs t H len = A at *
  generalize vs t H k = A1 at *
  generalize vs 0 (fun i => H (k + i)) (len - k) = A2 at *
  go_wp2_with fail
  clear hne
  refine (to_holders _ 1 _ (fun i => H (k + i)) _ (by omega) ?_).mono ?_
  · exact fun i hi => ⟨b, off + k * 4, rfl, by rw [show off + k * 4 + i * 4 = off + (k + i) * 4 from by omega]; exact (hc (k + i) (by omega)).below H7.out.2 hbw⟩
  rintro e w8 ⟨rfl, b8, r8⟩
  have H8 : Hid (RowH w8 w7.heap.size 1 (fun i => H (k + i)) ∧ RowH w8 w.heap.size len H ∧ Below w.heap.size w w8) := ⟨r8, H7.out.1.below b8, H7.out.2.trans (b8.mono H7.out.2.size)⟩
  clear b8 r8 H7
  go_wp2_with fail
  refine (vs_row 0 (fun i => H (k + i)) _ w7.heap.size 1 _ (by omega) ?_ ?_ (H8.out.1.alloc _)).mono ?_
  · rw [cell_of_row _ _ _ _ _ _ (heap_alloc_new _ _)]; rfl
  · rw [cell_of_row _ _ _ _ _ _ (heap_alloc_new _ _)]; rfl
  rintro e w9 ⟨rfl, b9⟩
  have b9' := (Below.alloc (Below.refl w8.heap.size w8) (Nat.le_refl _) _).trans (b9.mono (by simp))
  have H9 : Hid (RowH w9 w.heap.size len H ∧ Below w.heap.size w w9) := ⟨H8.out.2.1.below b9', H8.out.2.2.trans (b9'.mono H8.out.2.2.size)⟩
  clear b9 b9' H8
  have hne2 : (vs 0 (fun i => H (k + i)) 1 != wrap64 ((H k).vot - (H k).sh)) = false := by rw [← ho.out]; simp
  generalize vs 0 (fun i => H (k + i)) 1 = O at *
  have q := H9.out.1.at hk
  have q0 := q.c0
  have q1 := q.c1
  have q2 := q.c2
  have q3 := q.c3
  clear q
  go_wp2_with fail
  have HN : Hid (HdAt (w9.alloc (.cells #[.int .i64 (H k).sh, .bool (H k).tr, .int .u8 (H k).ro, .int .i64 (H k).re] 41)) w9.heap.size 0 (H k)) := hdAt_new w9 (H k)
  clear q0 q1 q2 q3
  go_quiet ((go_at_call 8; exact Calls.quiet_of (voting_any _ 0 (H k) _ (HN.out.drewN _))))
  go_wp2_with fail
  go_ret
  exact ⟨rfl, below_drewN (H9.out.2.alloc H9.out.2.size _) _⟩
end Go.Proofs.Qxb6634828a
