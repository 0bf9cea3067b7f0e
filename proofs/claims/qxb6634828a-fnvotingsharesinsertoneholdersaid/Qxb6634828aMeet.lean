import Derived.Test.Qxb6634828aTo
namespace Go.Proofs.Qxb6634828a
open Go.RowKit

/-- the row of m holders at block g -/
def RowH (w : World) (g m : Nat) (H : Nat → Hd) : Prop := w.rowIs g 41 (m * 4) (hdCell H m)

theorem RowH.below {w w' : World} {g m : Nat} {H : Nat → Hd} (h : RowH w g m H) (hb : Below w.heap.size w w') : RowH w' g m H := World.rowIs.of_block h (hb.block _ (World.rowIs.lt h))
theorem RowH.alloc {w : World} {g m : Nat} {H : Nat → Hd} (h : RowH w g m H) (o : Obj) : RowH (w.alloc o) g m H := World.rowIs.alloc h o
theorem RowH.at {w : World} {g m : Nat} {H : Nat → Hd} (h : RowH w g m H) {i : Nat} (hi : i < m) : HdAt w g (i * 4) (H i) := hdAt_row h hi

theorem HdAt.below {w w' : World} {b o B : Nat} {h : Hd} (k : HdAt w b o h) (hb : Below B w w') (hB : b < B) : HdAt w' b o h :=
  ⟨(hb.cell (p := ⟨b, o, none⟩) hB).trans k.c0, (hb.cell (p := ⟨b, o + 1, none⟩) hB).trans k.c1, (hb.cell (p := ⟨b, o + 2, none⟩) hB).trans k.c2, (hb.cell (p := ⟨b, o + 3, none⟩) hB).trans k.c3⟩

theorem hdAt_new (w : World) (h : Hd) : HdAt (w.alloc (.cells #[.int .i64 h.sh, .bool h.tr, .int .u8 h.ro, .int .i64 h.re] 41)) w.heap.size 0 h := by
  refine ⟨?_, ?_, ?_, ?_⟩ <;> rw [cell_of_row _ _ _ _ _ _ (heap_alloc_new w _)] <;> rfl

/-- VotingShares at a Meeting with holders -/
theorem vs_row (t : Int) (H : Nat → Hd) (p g m : Nat) (w : World) (hm : m ≤ 1048576) (c1 : w.cell? ⟨p, 1, none⟩ = some (.int .i64 t)) (c5 : w.cell? ⟨p, 5, none⟩ = some (.slice (some ⟨g, 0, none⟩) m m)) (hH : RowH w g m H) :
    Calls Try.prog 7 #[.pointer (some ⟨p, 0, none⟩)] w fun e w' => e = .returned (.int .i64 (vs t H m)) ∧ Below w.heap.size w w' := by
  refine (vs_any t H p g m w hm c1 c5 fun i hi => hH.at hi).mono ?_
  rintro e w' ⟨rfl, n, rfl⟩
  exact ⟨rfl, below_drewN (Below.refl _ _) n⟩

theorem vs_nil (t : Int) (p : Nat) (w : World) (c1 : w.cell? ⟨p, 1, none⟩ = some (.int .i64 t)) (c5 : w.cell? ⟨p, 5, none⟩ = some (.slice none 0 0)) :
    Calls Try.prog 7 #[.pointer (some ⟨p, 0, none⟩)] w fun e w' => e = .returned (.int .i64 t) ∧ Below w.heap.size w w' := by
  refine (Calls.nil_vs t p w c1 c5).mono ?_
  rintro e w' ⟨rfl, n, rfl⟩
  exact ⟨rfl, below_drewN (Below.refl _ _) n⟩

/-! ### the plain law -/

theorem wrap_wrap (x : Int) : wrap64 (wrap64 x) = wrap64 x := by unfold wrap64; omega

theorem wrap_sub_wrap (a b : Int) : wrap64 (a - wrap64 b) = wrap64 (a - b) := by unfold wrap64; omega
theorem wrap_wrap_sub (a b : Int) : wrap64 (wrap64 a - b) = wrap64 (a - b) := by unfold wrap64; omega
theorem wrap_wrap_add (a b : Int) : wrap64 (wrap64 a + wrap64 b) = wrap64 (a + b) := by unfold wrap64; omega

/-- what the first k holders keep from the vote, in whole numbers -/
def keep (H : Nat → Hd) : Nat → Int
  | 0 => 0
  | k + 1 => keep H k + ((H k).sh - (H k).vot)

theorem vs_keep (t : Int) (H : Nat → Hd) (ht : wrap64 t = t) : ∀ k, vs t H k = wrap64 (t - keep H k)
  | 0 => by simp [vs, keep, ht]
  | k + 1 => by
    simp only [vs, keep]
    rw [vs_keep t H ht k, wrap_sub_wrap, wrap_wrap_sub]
    congr 1
    omega

theorem keep_split (H : Nat → Hd) (k : Nat) : ∀ m, keep H (k + m) = keep H k + keep (fun i => H (k + i)) m
  | 0 => by simp [keep]
  | m + 1 => by
    rw [← Nat.add_assoc]
    simp only [keep]
    rw [keep_split H k m]
    omega

theorem vs_cut (t : Int) (H : Nat → Hd) (ht : wrap64 t = t) {k n : Nat} (hk : k ≤ n) : vs t H n = wrap64 (vs t H k + vs 0 (fun i => H (k + i)) (n - k)) := by
  rw [vs_keep t H ht, vs_keep t H ht, vs_keep 0 _ (by unfold wrap64; omega), wrap_wrap_add]
  have := keep_split H k (n - k)
  rw [show k + (n - k) = n from by omega] at this
  rw [this]
  congr 1
  omega

theorem vs_one (H : Nat → Hd) : vs 0 H 1 = wrap64 ((H 0).vot - (H 0).sh) := by
  simp only [vs]
  rw [wrap_sub_wrap]
  congr 1
  omega

end Go.Proofs.Qxb6634828a
