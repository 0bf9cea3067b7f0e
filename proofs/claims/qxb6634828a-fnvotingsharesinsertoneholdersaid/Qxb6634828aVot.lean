import Derived.Test.Qxb6634828aRows
import Derived.WalkKit
import Derived.ProofKit
import Derived.Deep.OwnRows
import Derived.Deep.QuietTactic
import Derived.BigQuiet
import Derived.WalkLawsBesides
import Derived.Outline
namespace Go.Proofs.Qxb6634828a
open Go.RowKit

/-- a holder's four fields -/
structure Hd where
  sh : Int
  tr : Bool
  ro : Int
  re : Int

/-- what it votes with -/
def Hd.vot (h : Hd) : Int := if h.tr then 0 else wrap64 (h.sh - h.re)

/-- the holder's four cells lie at block b from offset o on -/
structure HdAt (w : World) (b o : Nat) (h : Hd) : Prop where
  c0 : w.cell? ⟨b, o, none⟩ = some (.int .i64 h.sh)
  c1 : w.cell? ⟨b, o + 1, none⟩ = some (.bool h.tr)
  c2 : w.cell? ⟨b, o + 2, none⟩ = some (.int .u8 h.ro)
  c3 : w.cell? ⟨b, o + 3, none⟩ = some (.int .i64 h.re)

theorem HdAt.drewN {w : World} {b o : Nat} {h : Hd} (k : HdAt w b o h) (n : Nat) : HdAt (w.drewN n) b o h := ⟨k.c0, k.c1, k.c2, k.c3⟩

set_option maxHeartbeats 400000 in
theorem voting_any (b o : Nat) (h : Hd) (w : World) (k : HdAt w b o h) :
    Calls Try.prog 8 #[.pointer (some ⟨b, o, none⟩)] w fun e w' => e = .returned (.int .i64 h.vot) ∧ ∃ n, w' = w.drewN n := by
  obtain ⟨c0, c1, c2, c3⟩ := k
  obtain ⟨sh, tr, ro, re⟩ := h
  cases tr
  · go_enter Try.func8, Try.ntmps8
    go_wp2
    go_quiet (fail)
    go_wp2
    go_ret
    exact ⟨rfl, _, rfl⟩
  · go_enter Try.func8, Try.ntmps8
    go_wp2
    go_ret
    exact ⟨rfl, 0, rfl⟩

/-- the voting shares behind the first k holders -/
def vs (t : Int) (H : Nat → Hd) : Nat → Int
  | 0 => t
  | k + 1 => wrap64 (vs t H k - wrap64 ((H k).sh - (H k).vot))

theorem wrapEq (x : Int) : IntKind.i64.wrap x = wrap64 x := by rw [IntKind.wrap_i64]; unfold wrap64; rfl

theorem Calls.nil_vs (t : Int) (p : Nat) (w : World) (c1 : w.cell? ⟨p, 1, none⟩ = some (.int .i64 t)) (c5 : w.cell? ⟨p, 5, none⟩ = some (.slice none 0 0)) :
    Calls Try.prog 7 #[.pointer (some ⟨p, 0, none⟩)] w fun e w' => e = .returned (.int .i64 t) ∧ ∃ n, w' = w.drewN n := by
  go_enter Try.func7, Try.ntmps7
  go_wp2
  refine wp_loop_rounds 1 ?_
  rw [rounds_succ]
  go_wp2
  go_ret
  exact ⟨rfl, 0, rfl⟩

set_option maxHeartbeats 400000 in
theorem vs_any (t : Int) (H : Nat → Hd) (p g m : Nat) (w : World) (hm : m ≤ 1048576) (c1 : w.cell? ⟨p, 1, none⟩ = some (.int .i64 t)) (c5 : w.cell? ⟨p, 5, none⟩ = some (.slice (some ⟨g, 0, none⟩) m m)) (hH : ∀ i, i < m → HdAt w g (i * 4) (H i)) :
    Calls Try.prog 7 #[.pointer (some ⟨p, 0, none⟩)] w fun e w' => e = .returned (.int .i64 (vs t H m)) ∧ ∃ n, w' = w.drewN n := by
  go_enter Try.func7, Try.ntmps7
  go_wp2
  go_loopw [3, 15] (fun v i wr => ∃ k : Nat, k ≤ m ∧ i = .int .i64 k ∧ v = .int .i64 (vs t H k) ∧ ∃ n, wr = w.drewN n) (fun _ i _ => m - (intOf i).toNat)
  case atStart => exact ⟨0, Nat.zero_le _, rfl, rfl, 0, rfl⟩
  case round =>
    obtain ⟨k, hk, rfl, rfl, n, hn⟩ := hrel
    have HN : Hid (wr = w.drewN n) := hn
    have d1 : wr.cell? ⟨p, 1, none⟩ = some (.int .i64 t) := by rw [hn]; exact c1
    have d5 : wr.cell? ⟨p, 5, none⟩ = some (.slice (some ⟨g, 0, none⟩) m m) := by rw [hn]; exact c5
    by_cases hlt : k < m
    · have HD : Hid (HdAt wr g (k * 4) (H k)) := by rw [hn]; exact (hH k hlt).drewN _
      have d0 := HD.out.c0
      clear hn c1 c5 hH
      go_wp2
      go_quiet ((go_at_call 8; exact Calls.quiet_of (voting_any g (k * 4) (H k) _ (HD.out.drewN _))))
      go_wp2
      go_roundw
      case rel => exact ⟨k + 1, by omega, by go_num, rfl, n + nq, by rw [HN.out]; simp [World.drewN]; omega⟩
      case measure => simp [intOf]; omega
    · obtain rfl : k = m := by omega
      clear hn
      go_wp2
      go_ret
      exact ⟨rfl, n, HN.out⟩
end Go.Proofs.Qxb6634828a
