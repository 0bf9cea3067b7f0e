/- UvarintLen's contract: the number of 7-bit groups of the argument as an uint64. -/
import Derived.Test.Qxb6632620aRows
import Derived.Test.Qxb6632620aPlain
import Derived.WalkKit
import Derived.ProofKit
import Derived.Outline
namespace Go.Proofs.Qxb6632620a
open Go.RowKit Plain

/-- the int n as an uint64 -/
def U (n : Int) : Nat := (IntKind.u64.wrap n).toNat

theorem U_eq (n : Int) : IntKind.u64.wrap n = (U n : Int) := by
  unfold U IntKind.wrap
  simp [IntKind.signed, IntKind.bits]
  omega

theorem U_lt (n : Int) : U n < 2 ^ 64 := by
  unfold U IntKind.wrap
  simp [IntKind.signed, IntKind.bits]
  omega

theorem le_of_lt64 {v : Nat} (h : v < 2 ^ 64) : v ≤ 18446744073709551615 := by omega

theorem U_nat {v : Nat} (h : v < 2 ^ 64) : U (wrap64 v) = v := by
  unfold U IntKind.wrap wrap64
  simp [IntKind.signed, IntKind.bits]
  omega

set_option maxHeartbeats 400000 in
set_option maxRecDepth 100000 in
theorem uv_any (n : Int) (w : World) :
    Calls Try.prog 5 #[.int .i64 n] w fun e w' => ∃ k : Nat, e = .returned (.int .i64 k) ∧ IsUv (U n) k ∧ w' = w := by
  have hU := U_eq n
  have hlt : Hid (U n < 2 ^ 64) := U_lt n
  generalize U n = u at *
  go_enter Try.func5, Try.ntmps5
  go_wp2
  clear hU
  go_loop [3, 4] (fun s x => ∃ k v : Nat, s = .int .i64 k ∧ x = .int .u64 v ∧ UvAt u k v) (fun _ x => (intOf x).toNat)
  case atStart => exact ⟨1, u, rfl, rfl, UvAt.start u⟩
  case round =>
    obtain ⟨k, v, rfl, rfl, hr⟩ := hrel
    have hk : k ≤ 10 := hr.le_ten hlt.out
    by_cases hc : 128 ≤ v
    · have hn : Hid (UvAt u (k + 1) (v / 128)) := hr.next hc
      clear hr hlt
      go_wp2
      go_round
      case rel => exact ⟨k + 1, v / 128, by go_num, by go_num, hn.out⟩
      case measure => simp [intOf]; omega
    · have hn : Hid (IsUv u k) := hr.stop (by omega)
      clear hr hlt
      go_wp2
      go_ret
      exact ⟨k, rfl, hn.out, rfl⟩
end Go.Proofs.Qxb6632620a
