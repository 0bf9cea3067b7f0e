/- planSameBytes, planSameList, planSameStrings, planGrow -/
import Derived.Test.Qxb6632526aClone
import Derived.WalkSmall
namespace Go.Proofs.Qxb6632526a
open Go.RowKit

set_option maxRecDepth 100000 in
set_option maxHeartbeats 1000000 in
theorem same_bytes (s : SV) (xs : List Int) (w : World) (h : BytesAt w s xs) (hp : s.plain) :
    Calls Try.prog 11 #[.slice s.a s.l s.c, .slice s.a s.l s.c] w fun e w' => e = .returned (.bool true) ∧ w' = w := by
  obtain ⟨a, l, c⟩ := s
  have hlen := h.len
  simp only at hlen
  subst hlen
  simp only
  have heq := fun w => Lib.run_eql_slice_nil (P := Try.prog) w 31 5 a xs.length c 0 0 Try.underlying31
  rcases hp with hp | ⟨b, hp⟩
  · simp only at hp
    subst hp
    have hcv := run_convert_bytes_nil (P := Try.prog) w 31 5 Try.underlying31 Try.underlying5 xs.length c 9 Try.underlying9
    clear h
    go_enter Try.func11, Try.ntmps11
    go_wp2
    go_ret
    exact ⟨rfl, rfl⟩
  · simp only at hp
    subst hp
    have hcv := run_convert_bytes_arg (P := Try.prog) w 31 5 Try.underlying31 Try.underlying5 b 0 xs.length c xs rfl (fun i hi => by
      obtain ⟨b', off', e, hc⟩ := h.cell i hi
      simp only [Option.some.injEq, Addr.mk.injEq] at e
      obtain ⟨rfl, rfl, _⟩ := e
      rw [hc]
      simp [List.getD, hi]) 9 Try.underlying9
    clear h
    go_enter Try.func11, Try.ntmps11
    go_wp2
    go_ret
    exact ⟨rfl, rfl⟩

set_option maxRecDepth 100000 in
set_option maxHeartbeats 2000000 in
theorem same_list (s t : SV) (ss : List ByteArray) (w : World) (h : StrsAt w s ss) (h' : StrsAt w t ss) (hl : ss.length ≤ 4194304) :
    Calls Try.prog 15 #[.slice s.a s.l s.c, .slice t.a t.l t.c] w fun e w' => e = .returned (.bool true) ∧ Below w.heap.size w w' := by
  obtain ⟨a, l, c⟩ := s
  obtain ⟨a', l', c'⟩ := t
  have hlen := h.len
  have hlen' := h'.len
  simp only at hlen hlen'
  subst hlen
  subst hlen'
  simp only
  have H : Hid (StrsAt w ⟨a, ss.length, c⟩ ss ∧ StrsAt w ⟨a', ss.length, c'⟩ ss) := ⟨h, h'⟩
  clear h h'
  go_enter Try.func15, Try.ntmps15
  go_wp2
  go_loopw [5] (fun i wr => ∃ k : Nat, k ≤ ss.length ∧ i = .int .i64 k ∧ Below w.heap.size w wr) (fun i _ => ss.length - (intOf i).toNat)
  case atStart => exact ⟨0, Nat.zero_le _, rfl, Below.refl _ _⟩
  case round =>
    obtain ⟨k, hk, rfl, hb⟩ := hrel
    by_cases hlt : k < ss.length
    · obtain ⟨b1, off1, e1, c1⟩ := (H.out.1.below hb).cell k hlt
      obtain ⟨b2, off2, e2, c2⟩ := (H.out.2.below hb).cell k hlt
      simp only at e1 e2
      subst e1
      subst e2
      have hz1 : (0 : Int) ≤ (k : Int) := by omega
      have hz2 : (k : Int) < (ss.length : Int) := by omega
      have HB : Hid (Below w.heap.size w wr) := hb
      clear hb
      go_wp2_with fail
      go_quiet (fail)
      go_wp2
      go_roundw
      case rel => exact ⟨k + 1, by omega, by go_num, below_drewN HB.out _⟩
      case measure => simp [intOf]; omega
    · have HB : Hid (Below w.heap.size w wr) := hb
      clear hb
      go_wp2
      go_ret
      exact ⟨rfl, HB.out⟩

set_option maxRecDepth 100000 in
set_option maxHeartbeats 1000000 in
theorem same_strs (s : SV) (ss : List ByteArray) (w : World) (h : StrsAt w s ss) (hl : ss.length ≤ 4194304) :
    Calls Try.prog 12 #[.slice s.a s.l s.c, .slice s.a s.l s.c] w fun e w' => e = .returned (.bool true) ∧ Below w.heap.size w w' := by
  have heq := fun w => Lib.run_eql_slice_nil (P := Try.prog) w 33 9 s.a s.l s.c 0 0 Try.underlying33
  have hc := same_list s s ss w h h hl
  go_enter Try.func12, Try.ntmps12
  go_wp2_with fail
  refine hc.mono ?_
  rintro e w1 ⟨rfl, hb⟩
  go_wp2
  go_ret
  exact ⟨rfl, hb⟩

def GPost (t n : Nat) (w : World) (e : Ending) (w' : World) : Prop := (e = .returned (.tuple #[.int .i64 ((t + n : Nat) : Int), .bool false]) ∧ w' = w ∧ t + n ≤ 1048576) ∨ (e = .returned (.tuple #[.int .i64 t, .bool true]) ∧ w' = w)

set_option maxHeartbeats 1000000 in
theorem grow (t n : Nat) (w : World) (ht : t ≤ 1048576) (hn : n ≤ 4611686018427387904) : Calls Try.prog 19 #[.int .i64 t, .int .i64 n] w (GPost t n w) := by
  by_cases h : t + n ≤ 1048576
  · go_enter Try.func19, Try.ntmps19
    have h1 : decide ((1048576 : Int) - (t : Int) < (n : Int)) = false := by simp; omega
    have h2 : ¬ ((1048576 : Int) - (t : Int) < (n : Int)) := by omega
    go_wp2
    exact bodyPost_ret (v := .tuple #[.int .i64 ((t + n : Nat) : Int), .bool false]) (by simp [results, Try.results19, go_sem]) rfl (.inl ⟨rfl, rfl, h⟩)
  · go_enter Try.func19, Try.ntmps19
    have h1 : decide ((1048576 : Int) - (t : Int) < (n : Int)) = true := by simp; omega
    have h2 : ((1048576 : Int) - (t : Int) < (n : Int)) := by omega
    go_wp2
    exact bodyPost_ret (v := .tuple #[.int .i64 t, .bool true]) (by simp [results, Try.results19, go_sem]) rfl (.inr ⟨rfl, rfl⟩)
end Go.Proofs.Qxb6632526a
