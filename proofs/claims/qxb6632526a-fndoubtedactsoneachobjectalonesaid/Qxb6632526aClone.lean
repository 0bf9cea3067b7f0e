/- planCloneBytes, planCloneStrings, planSameBytes, planSameList, planSameStrings, planGrow -/
import Derived.Test.Qxb6632526aObjs
import Derived.Lib.SliceRun
import Derived.Laws.CopyOwn
import Derived.Laws.BytesArg
import Derived.OwnWalk
namespace Go.Proofs.Qxb6632526a
open Go.RowKit

theorem Try.info5 : (Try.prog.info? 5).map (fun i => (i.zero, i.size, i.bytes)) = some (some (.int .u8 0), 1, 1) := by kernel_rfl
theorem Try.isz5 : (Try.prog.info? 5).map (·.size) = some 1 := by kernel_rfl
theorem Try.isz9 : (Try.prog.info? 9).map (·.size) = some 1 := by kernel_rfl

/-- its address is plain -/
def SV.plain (s : SV) : Prop := s.a = none ∨ ∃ b, s.a = some ⟨b, 0, none⟩

/-- .. and its block is number B or a later one -/
def SV.newAt (B : Nat) (s : SV) : Prop := s.a = none ∨ ∃ b, s.a = some ⟨b, 0, none⟩ ∧ B ≤ b

theorem or_turn {a b c d : Prop} (h : a ∨ b) (f : a → c) (g : b → d) : c ∨ d := h.elim (fun x => .inl (f x)) fun x => .inr (g x)

theorem SV.newAt.plain {B : Nat} {s : SV} (h : s.newAt B) : s.plain := or_turn h id fun ⟨b, e, _⟩ => ⟨b, e⟩

theorem SV.newAt.mono {B B' : Nat} {s : SV} (h : s.newAt B) (hB : B' ≤ B) : s.newAt B' := or_turn h id fun ⟨b, e, hb⟩ => ⟨b, e, Nat.le_trans hB hb⟩

theorem SV.newAt.ne {B : Nat} {s : SV} (h : s.newAt (B + 1)) {b off : Nat} (e : s.a = some ⟨b, off, none⟩) : B ≠ b := by
  rcases h with h | ⟨b', h, hb⟩
  · rw [h] at e; cases e
  · rw [h] at e
    simp only [Option.some.injEq, Addr.mk.injEq] at e
    omega

theorem copy_full {P : Program} (t e : TypeId) (ht : P.underlying t = some (.slice e)) (hsz : (P.info? e).map (·.size) = some 1) (z : Value) (ty : TypeId) (w : World) (x : Addr) (n c : Nat) (cs : List Value) (hn : cs.length = n)
    (hsrc : ∀ j v, cs[j]? = some v → w.cell? (x.add j) = some v) (h1 : ∀ v ∈ cs, v.oneCell' = true) :
    ∃ w1, (Builtin.copy_ #[t, t] ty #[.slice (some ⟨w.heap.size, 0, none⟩) n n, .slice (some x) n c]).run P (w.alloc (.cells (madeCells #[z] n) e)) = .ok (.int .i64 n) w1 ∧ w1.heap[w.heap.size]? = some (.cells cs.toArray e (0, 0)) ∧ Below w.heap.size w w1 := by
  have hb1 : Below w.heap.size w (w.alloc (.cells (madeCells #[z] n) e)) := (Below.refl _ _).alloc (Nat.le_refl _) _
  have hg := (MapKept.heap_alloc w (.cells (madeCells #[z] n) e)).1
  have hr := run_copy_row (P := P) (w.alloc (.cells (madeCells #[z] n) e)) t t ty e w.heap.size 0 n n x n c (madeCells #[z] n) e cs ht hsz hg (by rw [hn]; exact (Nat.min_self n).symm) (fun j v hj => (hb1.cell (World.block_lt_of_cell? w _ (hsrc j v hj))).trans (hsrc j v hj)) (by simp [madeCells, hn]) h1
  rw [hn] at hr
  refine ⟨_, hr, ?_, below_setRow hb1 (Nat.le_refl _) _⟩
  rw [setRow_heap _ _ _ _ _ _ hg]
  simp [madeCells]

set_option maxRecDepth 100000 in
set_option maxHeartbeats 1000000 in
theorem clone_bytes (s : SV) (xs : List Int) (w : World) (h : BytesAt w s xs) (hl : xs.length ≤ 1048576) :
    Calls Try.prog 20 #[.slice s.a s.l s.c] w fun e w' => ∃ v : SV, e = .returned (.slice v.a v.l v.c) ∧ BytesAt w' v xs ∧ Below w.heap.size w w' ∧ (v.a.isNone = s.a.isNone) ∧ v.newAt w.heap.size := by
  obtain ⟨a, l, c⟩ := s
  have hlen := h.len
  simp only at hlen
  subst hlen
  simp only
  cases a with
  | none =>
    have heq := fun w => Lib.run_eql_slice_nil (P := Try.prog) w 31 5 none 0 0 0 0 Try.underlying31
    obtain ⟨hc, rfl⟩ := h.nil rfl
    simp only at hc
    subst hc
    go_enter Try.func20, Try.ntmps20
    go_wp2
    go_ret
    exact ⟨.nil, rfl, ⟨rfl, fun _ => ⟨rfl, rfl⟩, Nat.le_refl _, fun i hi => by simp at hi⟩, Below.refl _ _, rfl, .inl rfl⟩
  | some x =>
    have heq := fun w => Lib.run_eql_slice_nil (P := Try.prog) w 31 5 (some x) xs.length c 0 0 Try.underlying31
    have hmk := run_make_row' (P := Try.prog) 31 5 (.int .u8 0) 1 Try.underlying31 Try.info5 rfl .i64 .i64 xs.length (by omega) (by omega)
    obtain ⟨w1, hrun, hw1, hbw1⟩ := copy_full (P := Try.prog) 31 5 Try.underlying31 Try.isz5 (.int .u8 0) 3 w x xs.length c (xs.map (Value.int .u8)) (by simp) (fun j v hj => by
      have hjl : j < xs.length := by
        rcases Nat.lt_or_ge j xs.length with h | h
        · exact h
        · simp [List.getElem?_eq_none (show (xs.map (Value.int .u8)).length ≤ j by simpa using h)] at hj
      obtain ⟨b, off, e, hc⟩ := h.cell j hjl
      simp only [Option.some.injEq] at e
      subst e
      have hplain : (⟨b, off, none⟩ : Addr).add j = ⟨b, off + j, none⟩ := by unfold Addr.add; split <;> simp_all
      rw [hplain, hc]
      simp [List.getElem?_eq_getElem hjl] at hj
      rw [hj]) (by intro v hv; obtain ⟨n, _, rfl⟩ := List.mem_map.1 hv; rfl)
    have H : Hid (w1.heap[w.heap.size]? = some (.cells (xs.map (Value.int .u8)).toArray 5 (0, 0)) ∧ Below w.heap.size w w1) := ⟨hw1, hbw1⟩
    clear hw1 hbw1 h
    go_enter Try.func20, Try.ntmps20
    go_wp2
    go_ret
    refine ⟨⟨some ⟨w.heap.size, 0, none⟩, xs.length, xs.length⟩, rfl, ⟨rfl, fun e => (by cases e), Nat.le_refl _, fun i hi => ⟨_, _, rfl, ?_⟩⟩, H.out.2, rfl, .inr ⟨_, rfl, Nat.le_refl _⟩⟩
    simp [World.cell?, H.out.1, hi]

set_option maxRecDepth 100000 in
set_option maxHeartbeats 1000000 in
theorem clone_strs (s : SV) (xs : List ByteArray) (w : World) (h : StrsAt w s xs) (hl : xs.length ≤ 1048576) :
    Calls Try.prog 21 #[.slice s.a s.l s.c] w fun e w' => ∃ v : SV, e = .returned (.slice v.a v.l v.c) ∧ StrsAt w' v xs ∧ Below w.heap.size w w' ∧ (v.a.isNone = s.a.isNone) ∧ v.newAt w.heap.size := by
  obtain ⟨a, l, c⟩ := s
  have hlen := h.len
  simp only at hlen
  subst hlen
  simp only
  cases a with
  | none =>
    have heq := fun w => Lib.run_eql_slice_nil (P := Try.prog) w 33 9 none 0 0 0 0 Try.underlying33
    obtain ⟨hc, rfl⟩ := h.nil rfl
    simp only at hc
    subst hc
    go_enter Try.func21, Try.ntmps21
    go_wp2
    go_ret
    exact ⟨.nil, rfl, ⟨rfl, fun _ => ⟨rfl, rfl⟩, Nat.le_refl _, fun i hi => by simp at hi⟩, Below.refl _ _, rfl, .inl rfl⟩
  | some x =>
    have heq := fun w => Lib.run_eql_slice_nil (P := Try.prog) w 33 9 (some x) xs.length c 0 0 Try.underlying33
    have hmk := run_make_row' (P := Try.prog) 33 9 (.string ⟨#[]⟩) 16 Try.underlying33 Try.info9 rfl .i64 .i64 xs.length (by omega) (by omega)
    obtain ⟨w1, hrun, hw1, hbw1⟩ := copy_full (P := Try.prog) 33 9 Try.underlying33 Try.isz9 (.string ⟨#[]⟩) 3 w x xs.length c (xs.map Value.string) (by simp) (fun j v hj => by
      have hjl : j < xs.length := by
        rcases Nat.lt_or_ge j xs.length with h | h
        · exact h
        · simp [List.getElem?_eq_none (show (xs.map Value.string).length ≤ j by simpa using h)] at hj
      obtain ⟨b, off, e, hc⟩ := h.cell j hjl
      simp only [Option.some.injEq] at e
      subst e
      have hplain : (⟨b, off, none⟩ : Addr).add j = ⟨b, off + j, none⟩ := by unfold Addr.add; split <;> simp_all
      rw [hplain, hc]
      simp [List.getElem?_eq_getElem hjl] at hj
      rw [hj]) (by intro v hv; obtain ⟨n, _, rfl⟩ := List.mem_map.1 hv; rfl)
    have H : Hid (w1.heap[w.heap.size]? = some (.cells (xs.map Value.string).toArray 9 (0, 0)) ∧ Below w.heap.size w w1) := ⟨hw1, hbw1⟩
    clear hw1 hbw1 h
    go_enter Try.func21, Try.ntmps21
    go_wp2
    go_ret
    refine ⟨⟨some ⟨w.heap.size, 0, none⟩, xs.length, xs.length⟩, rfl, ⟨rfl, fun e => (by cases e), Nat.le_refl _, fun i hi => ⟨_, _, rfl, ?_⟩⟩, H.out.2, rfl, .inr ⟨_, rfl, Nat.le_refl _⟩⟩
    simp [World.cell?, H.out.1, hi]

end Go.Proofs.Qxb6632526a
