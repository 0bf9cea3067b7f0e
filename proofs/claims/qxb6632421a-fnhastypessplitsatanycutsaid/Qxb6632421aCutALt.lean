import Derived.Test.Qxb6632421aLaw
import Derived.Laws.BytesArg
import Derived.Deep.RegionWith
import Derived.Deep.DrawnRows
namespace Go.Proofs.Qxb6632421a
open Go.RowKit
attribute [local go_sem] Go.wp_at_zero Go.wp_at_succ

set_option maxHeartbeats 1000000 in
theorem cutALt (b off len cap : Nat) (f : Nat → UInt8) (s : ByteArray) (c : Nat) (w : World) (hl : len ≤ 524288) (hs : s.size ≤ 524288) (hcap : cap ≤ 9223372036854775807) (hcz : 0 < cap)
    (hc : ∀ i, i < len → w.cell? ⟨b, off + i, none⟩ = some (.int .u8 (f i).toNat)) (hcl : c ≤ len)
    (hcc : c < cap) (hsc : s.size < c) (HL : Hid (eqB f c s = false)) (HG : Hid (eqB f len s = false)) (hwant : ((strOfNums (List.map (fun i => ((f i).toNat : Int)) (List.range len))).toList == s.toList) = false) :
    Calls Try.prog 3 #[.slice (some ⟨b, off, none⟩) len cap, .string s, .int .i64 c] w fun e w' => e = .returned (.bool true) ∧ Below w.heap.size w w' := by
  have hbw : 0 < len → b < w.heap.size := fun h => World.block_lt_of_cell? w _ (hc 0 h)
  go_enter Try.func3, Try.ntmps3
  go_wp2_with (first | (go_at_call 5; go_in))
  refine (mk_fields _ len cap f _ (by omega) ?_).mono ?_
  · exact fun i hi => ⟨b, off, rfl, hc i hi⟩
  rintro e w1 ⟨rfl, b1, r1⟩
  have d1 := DictAt.born r1
  have b1' := b1.alloc b1.size (.cells #[.slice none 0 0, .slice (some ⟨w.heap.size, 0, none⟩) len len, .int .i64 0] 28)
  have H1 : Hid (_ ∧ _) := ⟨d1, b1'⟩
  have s1 := r1.lt
  clear d1 r1 b1 b1'
  go_wp2_with fail
  generalize hW1 : w1.alloc _ = W1 at *
  clear hW1
  refine (mk_fields _ c cap f _ (by omega) ?_).mono ?_
  · exact fun i hi => ⟨b, off, rfl, (H1.out.2.cell (hbw (by omega))).trans (hc i (by omega))⟩
  rintro e w2 ⟨rfl, b2, r2⟩
  have d2 := DictAt.born r2
  have b2' := b2.alloc b2.size (.cells #[.slice none 0 0, .slice (some ⟨W1.heap.size, 0, none⟩) c c, .int .i64 0] 28)
  have H2 : Hid (_ ∧ _ ∧ _) := ⟨d2, H1.out.1.below b2', H1.out.2.trans (b2'.mono H1.out.2.size)⟩
  clear d2 r2 b2 b2' H1
  go_wp2_with fail
  generalize hW2 : w2.alloc _ = W2 at *
  clear hW2
  refine (mk_fields _ (len - c) _ (fun i => f (c + i)) _ (by omega) ?_).mono ?_
  · exact fun i hi => ⟨b, off + c, rfl, (H2.out.2.2.cell (hbw (by omega))).trans (by rw [Nat.add_assoc]; exact hc (c + i) (by omega))⟩
  rintro e w3 ⟨rfl, b3, r3⟩
  have d3 := DictAt.born r3
  have b3' := b3.alloc b3.size (.cells #[.slice none 0 0, .slice (some ⟨W2.heap.size, 0, none⟩) (len - c) (len - c), .int .i64 0] 28)
  have H3 : Hid (_ ∧ _ ∧ _ ∧ _) := ⟨d3, H2.out.1.below b3', H2.out.2.1.below b3', H2.out.2.2.trans (b3'.mono H2.out.2.2.size)⟩
  clear d3 r3 b3 b3' H2
  have q0 := H3.out.2.2.1.c0
  have q1 := H3.out.2.2.1.c1
  have q2 := H3.out.2.2.1.c2
  go_wp2_with fail
  generalize hW3 : w3.alloc _ = W3 at *
  clear hW3 q0 q1 q2
  refine (has_dict_b (by omega) (by omega) H3.out.2.2.1 HG.out).mono ?_
  rintro e w4 ⟨rfl, b4⟩
  have hcv := run_convert_bytes_arg (P := Try.prog) w4 22 5 Try.underlying22 Try.underlying5 b off len cap ((List.range len).map fun i => ((f i).toNat : Int)) (by simp) (fun i hi => by
    rw [b4.cell (p := ⟨b, off + i, none⟩) (Nat.lt_of_lt_of_le (hbw (by omega)) H3.out.2.2.2.size), H3.out.2.2.2.cell (hbw (by omega)), hc i hi]; simp [hi]) 9 Try.underlying9
  have LD : Hid (DictAt w4.drew w2.heap.size W1.heap.size c f) := (H3.out.2.1.below b4).below (Below.refl _ _).drew
  have MD : Hid (DictAt w4.drew w3.heap.size W2.heap.size (len - c) fun i => f (c + i)) := (H3.out.1.below b4).below (Below.refl _ _).drew
  have B4 : Hid (Below w.heap.size w w4.drew) := (H3.out.2.2.2.trans (b4.mono H3.out.2.2.2.size)).drew
  clear b4 H3
  go_wp2_with fail
  clear hcv
  have l0 : w4.cell? ⟨w2.heap.size, 0, none⟩ = _ := LD.out.c0
  have l1 : w4.cell? ⟨w2.heap.size, 1, none⟩ = _ := LD.out.c1
  have l2 : w4.cell? ⟨w2.heap.size, 2, none⟩ = _ := LD.out.c2
  first | (go_region_with (first | (go_at_call_of 7 (W1.heap.size); refine (has_dict_b (p := w2.heap.size) (f := f) (by first | omega | (simp; omega)) (by omega) LD.out (by exact HL.out)).mono ?_; rintro e w5 ⟨rfl, b5⟩; have M5 := MD.out.below b5; have m0' := M5.c0; have m1' := M5.c1; have m2' := M5.c2; have B5 : Hid (Below w.heap.size w w5) := B4.out.trans (b5.mono B4.out.size); have N5 : Hid (DictAt w5 w3.heap.size W2.heap.size (len - c) fun i => f (c + i)) := M5; clear M5 b5))) | fail
  all_goals
    go_wp2_with fail
    go_ret
    exact ⟨rfl, B5.out⟩

end Go.Proofs.Qxb6632421a
