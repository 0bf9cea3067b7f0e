/- planTooBig -/
import Derived.Test.Qxb6632526aBox
import Derived.Deep.DeepCutAuto
namespace Go.Proofs.Qxb6632526a
open Go.RowKit

def TPost (w : World) (e : Ending) (w' : World) : Prop := ∃ t : Bool, e = .returned (.bool t) ∧ Below w.heap.size w w'

def TLoop (n : Nat) (t i : Value) : Prop := ∃ (j : Nat) (T : Int), j ≤ n ∧ i = .int .i64 j ∧ t = .int .i64 T ∧ 0 ≤ T ∧ T ≤ 1048576

set_option maxRecDepth 100000 in
set_option maxHeartbeats 8000000 in
theorem tooBig (s : SV) (L : List Ob) (w : World) (h : ObsAt w s L) (hL : L.length ≤ 1048576) (hS : ∀ x ∈ L, x.Small) : Calls Try.prog 6 #[.slice s.a s.l s.c] w (TPost w) := by
  obtain ⟨a, l, c⟩ := s
  have hl : l = L.length := h.len
  subst hl
  simp only
  have H : Hid (ObsAt w ⟨a, L.length, c⟩ L ∧ ∀ x ∈ L, x.Small) := ⟨h, hS⟩
  clear h hS
  go_enter Try.func6, Try.ntmps6
  go_wp2
  go_loopw [3, 5] (fun t i wr => TLoop L.length t i ∧ Below w.heap.size w wr) (fun _ i _ => L.length - (intOf i).toNat)
  case atStart => exact ⟨⟨0, 0, Nat.zero_le _, rfl, rfl, by omega, by omega⟩, Below.refl _ _⟩
  case round =>
    obtain ⟨⟨k, T, hk, rfl, rfl, hT0, hT1⟩, hb⟩ := hrel
    have HB : Hid (Below w.heap.size w wr) := hb
    clear hb
    by_cases hlt : k < L.length
    · obtain ⟨b, off, ha, N⟩ := (H.out.1.below HB.out).cell k hlt
      simp only at ha
      subst ha
      have HA : Hid (L[k].At wr ∧ L[k].Small) := ⟨(H.out.1.below HB.out).at' _ (List.getElem_mem hlt), H.out.2 _ (List.getElem_mem hlt)⟩
      generalize L[k] = x at *
      obtain ⟨c0, c1, c2, c3, c4, c5, c6, c7, c8⟩ := N
      have Bx := boxed wr x
      have hWs := below_alloc wr (.cells #[.string x.p, .int .i64 x.q, .string x.n, .slice x.b.a x.b.l x.b.c, .slice x.o.a x.o.l x.o.c, .slice x.e.a x.e.l x.e.c, .slice x.r.a x.r.l x.r.c, .bool x.d, .slice x.de.a x.de.l x.de.c] 35)
      have HX : Hid (BoxAt _ _ _ ∧ Below _ _ _) := ⟨Bx, hWs⟩
      clear Bx hWs
      go_upto_region 7 with fail
      generalize hW : wr.alloc _ = W1 at *
      clear hW c0 c1 c2 c3 c4 c5 c6 c7 c8
      have HW : Hid (Below w.heap.size w W1) := HB.out.trans (HX.out.2.mono HB.out.size)
      have A1 : Hid (x.At W1 ∧ x.Small) := ⟨HA.out.1.below HX.out.2, HA.out.2⟩
      obtain ⟨d0, d1, d2, d3, d4, d5, d6, d7, d8⟩ := HX.out.1
      rw [A1.out.1.b.len] at d3
      rw [A1.out.1.o.len] at d4
      rw [A1.out.1.e.len] at d5
      rw [A1.out.1.r.len] at d6
      rw [A1.out.1.de.len] at d8
      have n0 := A1.out.2.p
      have n2 := A1.out.2.n
      have n3 := A1.out.2.b
      have n4 := A1.out.2.o
      have n5 := A1.out.2.e
      have n6 := A1.out.2.r
      have n8 := A1.out.2.de
      generalize wr.heap.size = Bq at *
      clear HX HA
      go_wp2_with fail
      refine (growI _ _ _ (by omega) (by omega) (by omega) (by omega)).mono ?_
      rintro e w9 (⟨T1, rfl, rfl, hT1a, hT1b⟩ | ⟨T1, rfl, rfl⟩)
      rotate_left
      · go_wp2
        go_ret
        exact ⟨true, rfl, HW.out⟩
      go_wp2_with fail
      refine (growI _ _ _ (by omega) (by omega) (by omega) (by omega)).mono ?_
      rintro e w9 (⟨T2, rfl, rfl, hT2a, hT2b⟩ | ⟨T2, rfl, rfl⟩)
      rotate_left
      · go_wp2
        go_ret
        exact ⟨true, rfl, HW.out⟩
      go_wp2_with fail
      refine (growI _ _ _ (by omega) (by omega) (by omega) (by omega)).mono ?_
      rintro e w9 (⟨T3, rfl, rfl, hT3a, hT3b⟩ | ⟨T3, rfl, rfl⟩)
      rotate_left
      · go_wp2
        go_ret
        exact ⟨true, rfl, HW.out⟩
      go_wp2_with fail
      refine (growI _ _ _ (by omega) (by omega) (by omega) (by omega)).mono ?_
      rintro e w9 (⟨T4, rfl, rfl, hT4a, hT4b⟩ | ⟨T4, rfl, rfl⟩)
      rotate_left
      · go_wp2
        go_ret
        exact ⟨true, rfl, HW.out⟩
      go_wp2_with fail
      refine (growI _ _ _ (by omega) (by omega) (by omega) (by omega)).mono ?_
      rintro e w9 (⟨T5, rfl, rfl, hT5a, hT5b⟩ | ⟨T5, rfl, rfl⟩)
      rotate_left
      · go_wp2
        go_ret
        exact ⟨true, rfl, HW.out⟩
      go_wp2_with fail
      go_loop [3, 7] (fun t i => TLoop x.es.length t i) (fun _ i => x.es.length - (intOf i).toNat)
      case atStart => exact ⟨0, _, Nat.zero_le _, rfl, rfl, by omega, by omega⟩
      case round =>
        obtain ⟨j, U, hj, rfl, rfl, hU0, hU1⟩ := hrel
        by_cases hjlt : j < x.es.length
        · obtain ⟨b2, off2, ha2, e0, e1⟩ := A1.out.1.e.cell j hjlt
          have hb2 := (A1.out.1.e.body _ (List.getElem_mem hjlt)).len
          obtain ⟨m0, m1⟩ := A1.out.2.en _ (List.getElem_mem hjlt)
          rw [hb2] at e1
          rw [ha2] at d5
          generalize x.es[j] = y at *
          clear ha2 hb2
          go_wp2_with fail
          refine (growI _ _ _ (by omega) (by omega) (by omega) (by omega)).mono ?_
          rintro e w9 (⟨T6, rfl, rfl, hT6a, hT6b⟩ | ⟨T6, rfl, rfl⟩)
          rotate_left
          · go_wp2
            go_ret
            exact ⟨true, rfl, HW.out⟩
          go_wp2_with fail
          refine (growI _ _ _ (by omega) (by omega) (by omega) (by omega)).mono ?_
          rintro e w9 (⟨T7, rfl, rfl, hT7a, hT7b⟩ | ⟨T7, rfl, rfl⟩)
          rotate_left
          · go_wp2
            go_ret
            exact ⟨true, rfl, HW.out⟩
          go_wp2_with fail
          refine (growI _ _ _ (by omega) (by omega) (by omega) (by omega)).mono ?_
          rintro e w9 (⟨T8, rfl, rfl, hT8a, hT8b⟩ | ⟨T8, rfl, rfl⟩)
          rotate_left
          · go_wp2
            go_ret
            exact ⟨true, rfl, HW.out⟩
          go_wp2_with fail
          go_round
          case rel => exact ⟨j + 1, _, by omega, by go_num, rfl, by omega, by omega⟩
          case measure => simp [intOf]; omega
        · go_wp2_with fail
          go_loop [3, 8] (fun t i => TLoop x.rs.length t i) (fun _ i => x.rs.length - (intOf i).toNat)
          case atStart => exact ⟨0, _, Nat.zero_le _, rfl, rfl, by omega, by omega⟩
          case round =>
            obtain ⟨j2, U2, hj2, rfl, rfl, hU20, hU21⟩ := hrel
            by_cases hj2lt : j2 < x.rs.length
            · obtain ⟨b2, off2, ha2, e0⟩ := A1.out.1.r.cell j2 hj2lt
              have m0 := A1.out.2.rn _ (List.getElem_mem hj2lt)
              rw [ha2] at d6
              generalize x.rs[j2] = y at *
              clear ha2
              go_wp2_with fail
              refine (growI _ _ _ (by omega) (by omega) (by omega) (by omega)).mono ?_
              rintro e w9 (⟨T9, rfl, rfl, hT9a, hT9b⟩ | ⟨T9, rfl, rfl⟩)
              rotate_left
              · go_wp2
                go_ret
                exact ⟨true, rfl, HW.out⟩
              go_wp2_with fail
              refine (growI _ _ _ (by omega) (by omega) (by omega) (by omega)).mono ?_
              rintro e w9 (⟨T10, rfl, rfl, hT10a, hT10b⟩ | ⟨T10, rfl, rfl⟩)
              rotate_left
              · go_wp2
                go_ret
                exact ⟨true, rfl, HW.out⟩
              go_wp2_with fail
              go_round
              case rel => exact ⟨j2 + 1, _, by omega, by go_num, rfl, by omega, by omega⟩
              case measure => simp [intOf]; omega
            · go_wp2_with fail
              go_loop [3, 9] (fun t i => TLoop x.ds.length t i) (fun _ i => x.ds.length - (intOf i).toNat)
              case atStart => exact ⟨0, _, Nat.zero_le _, rfl, rfl, by omega, by omega⟩
              case round =>
                obtain ⟨j3, U3, hj3, rfl, rfl, hU30, hU31⟩ := hrel
                by_cases hj3lt : j3 < x.ds.length
                · obtain ⟨b2, off2, ha2, e0⟩ := A1.out.1.de.cell j3 hj3lt
                  have m0 := A1.out.2.dn _ (List.getElem_mem hj3lt)
                  rw [ha2] at d8
                  generalize x.ds[j3] = y at *
                  clear ha2
                  go_wp2_with fail
                  refine (growI _ _ _ (by omega) (by omega) (by omega) (by omega)).mono ?_
                  rintro e w9 (⟨T11, rfl, rfl, hT11a, hT11b⟩ | ⟨T11, rfl, rfl⟩)
                  rotate_left
                  · go_wp2
                    go_ret
                    exact ⟨true, rfl, HW.out⟩
                  go_wp2_with fail
                  refine (growI _ _ _ (by omega) (by omega) (by omega) (by omega)).mono ?_
                  rintro e w9 (⟨T12, rfl, rfl, hT12a, hT12b⟩ | ⟨T12, rfl, rfl⟩)
                  rotate_left
                  · go_wp2
                    go_ret
                    exact ⟨true, rfl, HW.out⟩
                  go_wp2_with fail
                  go_round
                  case rel => exact ⟨j3 + 1, _, by omega, by go_num, rfl, by omega, by omega⟩
                  case measure => simp [intOf]; omega
                · go_wp2_with fail
                  go_roundw
                  case rel => exact ⟨⟨k + 1, _, by omega, by go_num, rfl, by omega, by omega⟩, HW.out⟩
                  case measure => simp [intOf]; omega
    · go_wp2
      go_ret
      exact ⟨false, rfl, HB.out⟩
end Go.Proofs.Qxb6632526a
