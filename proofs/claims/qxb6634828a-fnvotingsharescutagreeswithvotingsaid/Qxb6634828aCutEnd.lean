import Derived.Test.Qxb6634828aMeet
namespace Go.Proofs.Qxb6634828a
open Go.RowKit

set_option maxHeartbeats 2000000 in
theorem cutEnd (t : Int) (b off cap : Nat) (H : Nat → Hd) (k : Nat) (w : World) (hl : k ≤ 32768) (hcap : cap ≤ 9223372036854775807) (hkc : k < cap)
    (hc : ∀ i, i < k → HdAt w b (off + i * 4) (H i)) (ht : Hid (wrap64 t = t)) :
    Calls Try.prog 3 #[.int .i64 t, .slice (some ⟨b, off, none⟩) k cap, .int .i64 k] w fun e w' => e = .returned (.bool true) ∧ Below w.heap.size w w' := by
  have hbw : 0 < k → b < w.heap.size := fun h => World.block_lt_of_cell? w _ (hc 0 h).c0
  have hv : Hid (vs t H k = wrap64 (vs t H k + vs 0 (fun i => H (k + i)) 0)) := by have h := vs_cut t H ht.out (Nat.le_refl k); rw [Nat.sub_self] at h; exact h
  go_enter Try.func3, Try.ntmps3
  go_wp2_with (first | (go_at_call 5; go_in))
  refine (to_holders _ k cap H _ (by omega) ?_).mono ?_
  · exact fun i hi => ⟨b, off, rfl, hc i hi⟩
  rintro e w1 ⟨rfl, b1, r1⟩
  have H1 : Hid (RowH w1 w.heap.size k H ∧ Below w.heap.size w w1) := ⟨r1, b1⟩
  clear b1 r1
  go_wp2_with fail
  refine (to_holders _ k cap H _ (by omega) ?_).mono ?_
  · exact fun i hi => ⟨b, off, rfl, (hc i (by omega)).below H1.out.2 (hbw (by omega))⟩
  rintro e w2 ⟨rfl, b2, r2⟩
  have H2 : Hid (RowH w2 w1.heap.size k H ∧ RowH w2 w.heap.size k H ∧ Below w.heap.size w w2) := ⟨r2, H1.out.1.below b2, H1.out.2.trans (b2.mono H1.out.2.size)⟩
  clear b2 r2 H1
  go_wp2_with fail
  refine (to_holders _ 0 _ (fun i => H (k + i)) _ (by omega) ?_).mono ?_
  · intro i hi; omega
  rintro e w3 ⟨rfl, b3, r3⟩
  have H3 : Hid (RowH w3 w2.heap.size 0 (fun i => H (k + i)) ∧ RowH w3 w1.heap.size k H ∧ RowH w3 w.heap.size k H ∧ Below w.heap.size w w3) := ⟨r3, H2.out.1.below b3, H2.out.2.1.below b3, H2.out.2.2.trans (b3.mono H2.out.2.2.size)⟩
  clear b3 r3 H2
  go_wp2_with fail
  refine (vs_nil t _ _ ?_ ?_).mono ?_
  · rw [cell_of_row _ _ _ _ _ _ (heap_alloc_new _ _)]; rfl
  · rw [cell_of_row _ _ _ _ _ _ (heap_alloc_new _ _)]; rfl
  rintro e w4 ⟨rfl, b4⟩
  have b4' := (Below.alloc (Below.refl w3.heap.size w3) (Nat.le_refl _) _).trans (b4.mono (by simp))
  have H4 : Hid (RowH w4 w2.heap.size 0 (fun i => H (k + i)) ∧ RowH w4 w1.heap.size k H ∧ RowH w4 w.heap.size k H ∧ Below w.heap.size w w4) := ⟨H3.out.1.below b4', H3.out.2.1.below b4', H3.out.2.2.1.below b4', H3.out.2.2.2.trans (b4'.mono H3.out.2.2.2.size)⟩
  clear b4 b4' H3
  go_wp2_with fail
  refine (vs_row t H _ w.heap.size k _ (by omega) ?_ ?_ (H4.out.2.2.1.alloc _)).mono ?_
  · rw [cell_of_row _ _ _ _ _ _ (heap_alloc_new _ _)]; rfl
  · rw [cell_of_row _ _ _ _ _ _ (heap_alloc_new _ _)]; rfl
  rintro e w5 ⟨rfl, b5⟩
  have b5' := (Below.alloc (Below.refl w4.heap.size w4) (Nat.le_refl _) _).trans (b5.mono (by simp))
  have H5 : Hid (RowH w5 w2.heap.size 0 (fun i => H (k + i)) ∧ RowH w5 w1.heap.size k H ∧ RowH w5 w.heap.size k H ∧ Below w.heap.size w w5) := ⟨H4.out.1.below b5', H4.out.2.1.below b5', H4.out.2.2.1.below b5', H4.out.2.2.2.trans (b5'.mono H4.out.2.2.2.size)⟩
  clear b5 b5' H4
  go_wp2_with fail
  refine (vs_row t H _ w1.heap.size k _ (by omega) ?_ ?_ (H5.out.2.1.alloc _)).mono ?_
  · rw [cell_of_row _ _ _ _ _ _ (heap_alloc_new _ _)]; rfl
  · rw [cell_of_row _ _ _ _ _ _ (heap_alloc_new _ _)]; rfl
  rintro e w6 ⟨rfl, b6⟩
  have b6' := (Below.alloc (Below.refl w5.heap.size w5) (Nat.le_refl _) _).trans (b6.mono (by simp))
  have H6 : Hid (RowH w6 w2.heap.size 0 (fun i => H (k + i)) ∧ RowH w6 w.heap.size k H ∧ Below w.heap.size w w6) := ⟨H5.out.1.below b6', H5.out.2.2.1.below b6', H5.out.2.2.2.trans (b6'.mono H5.out.2.2.2.size)⟩
  clear b6 b6' H5
  go_wp2_with fail
  refine (vs_row 0 (fun i => H (k + i)) _ w2.heap.size 0 _ (by omega) ?_ ?_ (H6.out.1.alloc _)).mono ?_
  · rw [cell_of_row _ _ _ _ _ _ (heap_alloc_new _ _)]; rfl
  · rw [cell_of_row _ _ _ _ _ _ (heap_alloc_new _ _)]; rfl
  rintro e w7 ⟨rfl, b7⟩
  have b7' := (Below.alloc (Below.refl w6.heap.size w6) (Nat.le_refl _) _).trans (b7.mono (by simp))
  have H7 : Hid (RowH w7 w.heap.size k H ∧ Below w.heap.size w w7) := ⟨H6.out.2.1.below b7', H6.out.2.2.trans (b7'.mono H6.out.2.2.size)⟩
  clear b7 b7' H6
  have hne : (vs t H k != wrap64 (vs t H k + vs 0 (fun i => H (k + i)) 0)) = false := by rw [← hv.out]; simp
  generalize vs t H k = A at *
  generalize vs t H k = A1 at *
  generalize vs 0 (fun i => H (k + i)) 0 = A2 at *
  go_wp2_with fail
  go_ret
  exact ⟨rfl, H7.out.2⟩
end Go.Proofs.Qxb6634828a
