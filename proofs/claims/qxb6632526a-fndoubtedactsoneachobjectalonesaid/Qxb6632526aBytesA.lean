import Derived.Test.Qxb6632526aObjs
import Derived.Deep.LoopGhost
namespace Go.Proofs.Qxb6632526a
open Go.RowKit
/-- what zzBytes answers -/
def ZPost (w : World) (L : List Ob) (e : Ending) (w' : World) : Prop := ∃ t : Bool, e = .returned (.bool t) ∧ w' = w ∧ (t = true → L.length ≤ 1048576 ∧ ∀ x ∈ L, x.Small)

theorem zpost_false (w : World) (L : List Ob) : ZPost w L (.returned (.bool false)) w := ⟨false, rfl, rfl, fun h => by cases h⟩

def LoopE (es : List Ep) (t i : Value) : Prop := ∃ j m : Nat, j ≤ es.length ∧ i = .int .i64 j ∧ t = .int .i64 m ∧ m ≤ 1048576 ∧ ∀ y ∈ es.take j, y.n.size ≤ 1048576 ∧ y.xs.length ≤ 1048576
def LoopS (ss : List ByteArray) (t i : Value) : Prop := ∃ j m : Nat, j ≤ ss.length ∧ i = .int .i64 j ∧ t = .int .i64 m ∧ m ≤ 1048576 ∧ ∀ y ∈ ss.take j, y.size ≤ 1048576

theorem mem_take_succ {α : Type} {l : List α} {j : Nat} (h : j < l.length) {y : α} (hy : y ∈ l.take (j + 1)) : y ∈ l.take j ∨ y = l[j] := by
  rw [List.take_succ_eq_append_getElem h] at hy
  rcases List.mem_append.1 hy with h | h
  · exact .inl h
  · exact .inr (by simpa using h)

set_option maxRecDepth 100000 in
set_option maxHeartbeats 8000000 in
theorem zzBytes (s : SV) (L : List Ob) (w : World) (h : ObsAt w s L) : Calls Try.prog 5 #[.slice s.a s.l s.c] w (ZPost w L) := by
  obtain ⟨a, l, c⟩ := s
  have hl : l = L.length := h.len
  subst hl
  simp only
  have H : Hid (ObsAt w ⟨a, L.length, c⟩ L) := h
  clear h
  go_enter Try.func5, Try.ntmps5
  go_wp2
  · go_ret; exact zpost_false _ _
  have hL : L.length ≤ 1048576 := by omega
  go_loop [3, 4] (fun t i => ∃ k n : Nat, k ≤ L.length ∧ i = .int .i64 k ∧ t = .int .i64 n ∧ n ≤ 1048576 ∧ ∀ j, (hj : j < L.length) → j < k → L[j].Small) (fun _ i => L.length - (intOf i).toNat)
  case atStart => exact ⟨0, L.length, Nat.zero_le _, rfl, rfl, hL, fun j _ hj => by omega⟩
  case round =>
    obtain ⟨k, n, hk, rfl, rfl, hn, hS⟩ := hrel
    have HS : Hid (∀ j, (hj : j < L.length) → j < k → L[j].Small) := hS
    clear hS
    by_cases hlt : k < L.length
    · obtain ⟨b, off, ha, N⟩ := H.out.cell k hlt
      simp only at ha
      subst ha
      obtain ⟨c0, c1, c2, c3, c4, c5, c6, c7, c8⟩ := N
      have HA : Hid (L[k].At w) := H.out.at' _ (List.getElem_mem hlt)
      have HX : Hid (∀ j, (hj : j < L.length) → j < k + 1 → L[k].Small → L[j].Small) := fun j hj hjk hx => by
        by_cases e : j = k
        · subst e; exact hx
        · exact HS.out j hj (by omega)
      rw [HA.out.b.len] at c3
      rw [HA.out.o.len] at c4
      rw [HA.out.e.len] at c5
      rw [HA.out.r.len] at c6
      rw [HA.out.de.len] at c8
      generalize L[k] = x at *
      clear HS
      go_wp2_with fail
      all_goals first | (go_ret; exact zpost_false _ _) | skip
      go_loop [3, 5] (fun t i => LoopE x.es t i) (fun _ i => x.es.length - (intOf i).toNat)
      case atStart => exact ⟨0, _, Nat.zero_le _, rfl, by go_num, by omega, fun y hy => by simp at hy⟩
      case round =>
        obtain ⟨j, m, hj, rfl, rfl, hm, hE⟩ := hrel
        have HE : Hid (∀ y ∈ x.es.take j, y.n.size ≤ 1048576 ∧ y.xs.length ≤ 1048576) := hE
        clear hE
        by_cases hjlt : j < x.es.length
        · obtain ⟨b2, off2, ha2, e0, e1⟩ := HA.out.e.cell j hjlt
          have hb2 := (HA.out.e.body _ (List.getElem_mem hjlt)).len
          rw [hb2] at e1
          rw [ha2] at c5
          have HE2 : Hid ((x.es[j].n.size ≤ 1048576 ∧ x.es[j].xs.length ≤ 1048576) → ∀ y ∈ x.es.take (j + 1), y.n.size ≤ 1048576 ∧ y.xs.length ≤ 1048576) := fun h y hy => by
            rcases mem_take_succ hjlt hy with h' | rfl
            · exact HE.out y h'
            · exact h
          generalize x.es[j] = y at *
          clear HE ha2 hb2
          go_wp2_with fail
          all_goals first | (go_ret; exact zpost_false _ _) | skip
          go_round
          case rel => exact ⟨j + 1, _, by omega, by go_num, by go_num, by omega, HE2.out ⟨by omega, by omega⟩⟩
          case measure => simp [intOf]; omega
        · have hE' : ∀ y ∈ x.es, y.n.size ≤ 1048576 ∧ y.xs.length ≤ 1048576 := fun y hy => HE.out y (by rw [List.take_of_length_le (by omega)]; exact hy)
          have HE' : Hid (∀ y ∈ x.es, y.n.size ≤ 1048576 ∧ y.xs.length ≤ 1048576) := hE'
          clear hE' HE
          go_wp2_with fail
          all_goals first | (go_ret; exact zpost_false _ _) | skip
          go_loop [3, 6] (fun t i => LoopS x.rs t i) (fun _ i => x.rs.length - (intOf i).toNat)
          case atStart => exact ⟨0, _, Nat.zero_le _, rfl, by go_num, by omega, fun y hy => by simp at hy⟩
          case round =>
            obtain ⟨j6, m6, hj6, rfl, rfl, hm6, hE6⟩ := hrel
            have HE6 : Hid (∀ y ∈ x.rs.take j6, y.size ≤ 1048576) := hE6
            clear hE6
            by_cases hjlt6 : j6 < x.rs.length
            · obtain ⟨b2, off2, ha2, e0⟩ := HA.out.r.cell j6 hjlt6
              rw [ha2] at c6
              have HE2 : Hid (x.rs[j6].size ≤ 1048576 → ∀ y ∈ x.rs.take (j6 + 1), y.size ≤ 1048576) := fun h y hy => by
                rcases mem_take_succ hjlt6 hy with h' | rfl
                · exact HE6.out y h'
                · exact h
              generalize x.rs[j6] = y at *
              clear HE6 ha2
              go_wp2_with fail
              all_goals first | (go_ret; exact zpost_false _ _) | skip
              go_round
              case rel => exact ⟨j6 + 1, _, by omega, by go_num, by go_num, by omega, HE2.out (by omega)⟩
              case measure => simp [intOf]; omega
            · have hE' : ∀ y ∈ x.rs, y.size ≤ 1048576 := fun y hy => HE6.out y (by rw [List.take_of_length_le (by omega)]; exact hy)
              have HF6 : Hid (∀ y ∈ x.rs, y.size ≤ 1048576) := hE'
              clear hE' HE6
              go_wp2_with fail
              all_goals first | (go_ret; exact zpost_false _ _) | skip
              go_loop [3, 7] (fun t i => LoopS x.ds t i) (fun _ i => x.ds.length - (intOf i).toNat)
              case atStart => exact ⟨0, _, Nat.zero_le _, rfl, by go_num, by omega, fun y hy => by simp at hy⟩
              case round =>
                obtain ⟨j7, m7, hj7, rfl, rfl, hm7, hE7⟩ := hrel
                have HE7 : Hid (∀ y ∈ x.ds.take j7, y.size ≤ 1048576) := hE7
                clear hE7
                by_cases hjlt7 : j7 < x.ds.length
                · obtain ⟨b2, off2, ha2, e0⟩ := HA.out.de.cell j7 hjlt7
                  rw [ha2] at c8
                  have HE2 : Hid (x.ds[j7].size ≤ 1048576 → ∀ y ∈ x.ds.take (j7 + 1), y.size ≤ 1048576) := fun h y hy => by
                    rcases mem_take_succ hjlt7 hy with h' | rfl
                    · exact HE7.out y h'
                    · exact h
                  generalize x.ds[j7] = y at *
                  clear HE7 ha2
                  go_wp2_with fail
                  all_goals first | (go_ret; exact zpost_false _ _) | skip
                  go_round
                  case rel => exact ⟨j7 + 1, _, by omega, by go_num, by go_num, by omega, HE2.out (by omega)⟩
                  case measure => simp [intOf]; omega
                · have hE' : ∀ y ∈ x.ds, y.size ≤ 1048576 := fun y hy => HE7.out y (by rw [List.take_of_length_le (by omega)]; exact hy)
                  have HF7 : Hid (∀ y ∈ x.ds, y.size ≤ 1048576) := hE'
                  clear hE' HE7
                  go_wp2_with fail
                  all_goals first | (go_ret; exact zpost_false _ _) | skip
                  go_round
                  case rel => exact ⟨k + 1, _, by omega, by go_num, by go_num, by omega, fun j hj hjk => HX.out j hj hjk ⟨by omega, by omega, by omega, by omega, by omega, HE'.out, by omega, by omega, HF6.out, HF7.out⟩⟩
                  case measure => simp [intOf]; omega
    · go_wp2
      go_ret
      exact ⟨true, rfl, rfl, fun _ => ⟨hL, fun x hx => by
        obtain ⟨j, hj, rfl⟩ := List.getElem_of_mem hx
        exact HS.out j hj (by omega)⟩⟩
end Go.Proofs.Qxb6632526a
