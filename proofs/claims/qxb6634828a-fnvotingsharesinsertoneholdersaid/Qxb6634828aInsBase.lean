import Derived.Test.Qxb6634828aMeet
import Derived.Maps.AppendAt
namespace Go.Proofs.Qxb6634828a
open Go.RowKit

theorem Try.info43 : (Try.prog.info? 43).map (fun i => (i.zero, i.size, i.bytes)) = some (some (.agg #[.int .i64 0, .bool false, .int .u8 0, .int .i64 0]), 4, 24) := by kernel_rfl

/-- the register with h put in at place p -/
def put (H : Nat → Hd) (p : Nat) (h : Hd) (i : Nat) : Hd := if i < p then H i else if i = p then h else H (i - 1)

/-- what h keeps from the vote -/
def Hd.non (h : Hd) : Int := if h.tr then h.sh else h.re

/-- the cells of the first k holders -/
def cellsTo (H : Nat → Hd) (k : Nat) : List Value := (List.range (k * 4)).map fun j => (H (j / 4)).fld (j % 4)

/-- a holder's four cells as a list -/
def Hd.row (h : Hd) : List Value := [.int .i64 h.sh, .bool h.tr, .int .u8 h.ro, .int .i64 h.re]

theorem cellsTo_succ (H : Nat → Hd) (k : Nat) : cellsTo H k ++ (H k).row = cellsTo H (k + 1) := by
  unfold cellsTo
  rw [show (k + 1) * 4 = k * 4 + 1 + 1 + 1 + 1 from by omega]
  simp only [List.range_succ, List.map_append, List.map_cons, List.map_nil, List.append_assoc, List.cons_append, List.nil_append]
  rw [show k * 4 / 4 = k from by omega, show (k * 4 + 1) / 4 = k from by omega, show (k * 4 + 1 + 1) / 4 = k from by omega, show (k * 4 + 1 + 1 + 1) / 4 = k from by omega,
    show k * 4 % 4 = 0 from by omega, show (k * 4 + 1) % 4 = 1 from by omega, show (k * 4 + 1 + 1) % 4 = 2 from by omega, show (k * 4 + 1 + 1 + 1) % 4 = 3 from by omega]
  rfl

theorem row_oneCell (h : Hd) : ∀ u ∈ h.row, u.oneCell' = true := by
  intro u hu
  simp [Hd.row] at hu
  rcases hu with rfl | rfl | rfl | rfl <;> rfl

theorem row_new (w : World) (h : Hd) : ∀ j u, h.row[j]? = some u → (w.alloc (.cells #[.int .i64 h.sh, .bool h.tr, .int .u8 h.ro, .int .i64 h.re] 43)).cell? ((⟨w.heap.size, 0, none⟩ : Addr).add j) = some u := by
  intro j u hj
  have hplain : (⟨w.heap.size, 0, none⟩ : Addr).add j = ⟨w.heap.size, j, none⟩ := by unfold Addr.add; split <;> simp_all
  rw [hplain, cell_of_row _ _ _ _ _ _ (heap_alloc_new w _), ← hj]
  simp [Hd.row]

theorem hd_own {w : World} {B n cap : Nat} {H : Nat → Hd} (ho : w.ownsRow B 43 4 (.slice (some ⟨B, 0, none⟩) n cap) n (cellsTo H n)) {i : Nat} (hi : i < n) : HdAt w B (0 + i * 4) (H i) := by
  have q : ∀ r, r < 4 → w.cell? ⟨B, 0 + i * 4 + r, none⟩ = some ((H i).fld r) := by
    intro r hr
    rw [Nat.zero_add, ho.cellAt (i * 4 + r) (by omega)]
    unfold cellsTo
    rw [List.getElem?_map, List.getElem?_range (by omega)]
    simp only [Option.map_some]
    rw [show (i * 4 + r) / 4 = i from by omega, show (i * 4 + r) % 4 = r from by omega]
  exact ⟨q 0 (by omega), q 1 (by omega), q 2 (by omega), q 3 (by omega)⟩

theorem hdAt_new43 (w : World) (h : Hd) : HdAt (w.alloc (.cells #[.int .i64 h.sh, .bool h.tr, .int .u8 h.ro, .int .i64 h.re] 43)) w.heap.size 0 h := by
  refine ⟨?_, ?_, ?_, ?_⟩ <;> rw [cell_of_row _ _ _ _ _ _ (heap_alloc_new w _)] <;> rfl

theorem keep_congr (H G : Nat → Hd) : ∀ k, (∀ i, i < k → H i = G i) → keep H k = keep G k
  | 0, _ => rfl
  | k + 1, h => by
    simp only [keep]
    rw [keep_congr H G k (fun i hi => h i (by omega)), h k (by omega)]

theorem keep_put (H : Nat → Hd) (h : Hd) {p n : Nat} (hp : p ≤ n) : keep (put H p h) (n + 1) = keep H n + (h.sh - h.vot) := by
  have e1 := keep_split (put H p h) p (n + 1 - p)
  have e2 := keep_split H p (n - p)
  rw [show p + (n + 1 - p) = n + 1 from by omega] at e1
  rw [show p + (n - p) = n from by omega] at e2
  have e3 := keep_split (fun i => put H p h (p + i)) 1 (n - p)
  rw [show 1 + (n - p) = n + 1 - p from by omega] at e3
  have e4 : keep (put H p h) p = keep H p := keep_congr _ _ p fun i hi => if_pos hi
  have e5 : keep (fun i => put H p h (p + (1 + i))) (n - p) = keep (fun i => H (p + i)) (n - p) := keep_congr _ _ _ fun i _ => by
    unfold put
    rw [if_neg (by omega), if_neg (by omega), show p + (1 + i) - 1 = p + i from by omega]
  have e6 : keep (fun i => put H p h (p + i)) 1 = h.sh - h.vot := by
    simp [keep, put]
  rw [e1, e3, e4, e5, e6, e2]
  omega

theorem vs_put (t : Int) (H : Nat → Hd) (h : Hd) (ht : wrap64 t = t) {p n : Nat} (hp : p ≤ n) : vs t (put H p h) (n + 1) = wrap64 (vs t H n - h.non) := by
  rw [vs_keep t _ ht, vs_keep t _ ht, wrap_wrap_sub, keep_put H h hp]
  unfold Hd.non Hd.vot
  cases h.tr
  · simp
    unfold wrap64
    omega
  · simp
    congr 1
    omega

set_option maxHeartbeats 400000 in
theorem non_any (h : Hd) (w : World) :
    Calls Try.prog 10 #[.agg #[.int .i64 h.sh, .bool h.tr, .int .u8 h.ro, .int .i64 h.re]] w fun e w' => e = .returned (.int .i64 h.non) ∧ Below w.heap.size w w' := by
  obtain ⟨sh, tr, ro, re⟩ := h
  cases tr
  all_goals
    go_enter Try.func10, Try.ntmps10
    go_wp2
    go_ret
    exact ⟨rfl, (Below.refl _ _).alloc (Nat.le_refl _) _⟩
end Go.Proofs.Qxb6634828a
