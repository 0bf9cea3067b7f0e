/- maps.Keys over map[string]json.RawMessage, and slices.AppendSeq over it -/
import Derived.RangeFuncNested
import Derived.RangeFuncBound
import Derived.RangeFuncCalls
import Derived.RangeFuncLeaves
import Derived.Shelf.Abstract
import Derived.WalkKit
import Derived.OwnWalkIn
import Derived.TacticsInMore
import Derived.LoopNIn
import Derived.LoopIn
import Derived.Maps.AppendAt
import Derived.Test.Qxb6632526aKeys
namespace Go.Proofs.Qxb6632526a
open Go.RowKit Go.Shelf Go.Maps

attribute [local go_sem] Oper.semAt_some

theorem RangeAt.of_walks {P : Program} {w w' : World} {k : TypeId} {b r : Nat} {L todo : List (Value × Value)} (h : RangeAt P w k b r L todo) (hk : KeepsWalks w w') : RangeAt P w' k b r L todo := by
  obtain ⟨es, clock, since, seen, c0, hb, h1, h2, h3, hr, rest⟩ := h
  exact ⟨es, clock, since, seen, c0, hk.same b _ hb rfl, h1, h2, h3, hk.same r _ hr rfl, rest⟩

theorem RangeAt.iter_walk {P : Program} {w : World} {k : TypeId} {b r : Nat} {L todo : List (Value × Value)} (h : RangeAt P w k b r L todo) : ∃ o : Obj, w.heap[r]? = some o ∧ o.isWalk = true := by
  obtain ⟨es, clock, since, seen, c0, hb, h1, h2, h3, hr, rest⟩ := h
  exact ⟨_, hr, rfl⟩

def strOf : Value → ByteArray
  | .string s => s
  | _ => ByteArray.empty

theorem strOf_map (l : List ByteArray) : (l.map Value.string).map strOf = l := by
  rw [List.map_map]
  exact (List.map_congr_left (fun _ _ => rfl)).trans (List.map_id l)

set_option maxRecDepth 100000 in
set_option maxHeartbeats 1000000 in
theorem keys1_in (n : Nat) (hn : 1 ≤ n) (l Bm b : Nat) (L : List (Value × Value)) (ks : List ByteArray) (hks : L.map (·.1) = ks.map Value.string) (J Jx : List ByteArray → World → Prop)
    (hY : ∀ pre x W, J pre W → pre.length < ks.length → YieldAt Fence.wide (n - 1) Try.prog l #[.string x] W fun e W' =>
      (e = .returned (.bool true) ∧ J (pre ++ [x]) W' ∧ KeepsWalks W W') ∨ (e = .returned (.bool false) ∧ Jx (pre ++ [x]) W'))
    (W : World) (hJ : AbidesFrom W.heap.size J) (hm : W.cell? ⟨Bm, 0, none⟩ = some (.map (some b))) (hmap : MapIs Try.prog W 9 b L) (h0 : J [] W) :
    CallsIn Fence.wide n Try.prog 31 #[.func (.yield l) #[] #[], .pointer (some ⟨Bm, 0, none⟩)] W fun e W' => (∃ v, e = .returned v) ∧
      ((∃ ss : List ByteArray, ss.Perm ks ∧ J ss W') ∨ (∃ pre : List ByteArray, True ∧ Jx pre W')) := by
  obtain ⟨w0, hrun0, hrg0, hb0, hs0⟩ := hmap.range Try.underlying36
  have hJ0 : J [] w0 := hJ [] W w0 none h0 ⟨hb0.os, hb0.tape, hb0.output, hb0.size, fun k hk _ => hb0.block k hk⟩ (fun r e => by cases e)
  refine callsIn_of_wp Try.func31 rfl trivial ?_ rfl
  simp only [Try.ntmps31, List.size_toArray, List.length_cons, List.length_nil, Nat.reduceAdd, Nat.reduceSub, Array.replicate_succ, Array.replicate_zero, List.push_toArray, List.append_toArray, List.nil_append, List.cons_append]
  gi_wp2
  clear hrun0 hb0
  gi_loopw [3] (fun _ wr => ∃ (pre : List ByteArray) (todo : List (Value × Value)), RangeAt Try.prog wr 9 b W.heap.size L todo ∧ (pre.map Value.string ++ todo.map (·.1)).Perm (ks.map Value.string) ∧ J pre wr)
    (fun _ wr => rangeLeft wr b W.heap.size)
  case atStart => exact ⟨[], L, hrg0, by simp [hks], hJ0⟩
  case round =>
    obtain ⟨pre, todo, hrg, hperm, hJs⟩ := hrel
    have HP : Hid ((pre.map Value.string ++ todo.map (·.1)).Perm (ks.map Value.string)) := hperm
    clear hperm
    rcases hrg.next 0 with ⟨rfl, hrun⟩ | ⟨p, todo', w2, hpm, hpL, hrun, hrg2, hg2, hs2, hen⟩
    · gi_wp2
      go_end0
      refine ⟨⟨_, rfl⟩, .inl ⟨pre, ?_, hJs⟩⟩
      have h := HP.out
      simp only [List.map_nil, List.append_nil] at h
      have h2 := h.map strOf
      rwa [strOf_map, strOf_map] at h2
    · obtain ⟨x, hx⟩ : ∃ x, p.1 = .string x := by
        have h : p.1 ∈ L.map (·.1) := List.mem_map.2 ⟨p, hpL, rfl⟩
        rw [hks] at h
        obtain ⟨x, _, e⟩ := List.mem_map.1 h
        exact ⟨x, e.symm⟩
      have hJ2 : J pre w2 := hJ pre wr w2 (some W.heap.size) hJs hg2 (fun r e => by cases e; exact ⟨Nat.le_refl _, hrg.iter_walk⟩)
      have hp2 : (((pre ++ [x]).map Value.string) ++ todo'.map (·.1)).Perm (ks.map Value.string) := by
        refine List.Perm.trans ?_ HP.out
        have h1 := (hpm.map (·.1)).symm
        simp only [List.map_cons] at h1
        rw [hx] at h1
        have h2 := h1.append_left (pre.map Value.string)
        simpa using h2
      have hlen : pre.length < ks.length := by
        have := hp2.length_eq
        simp at this
        omega
      obtain ⟨fn, tmps, assign, body, hy, hR⟩ := hY pre x w2 hJ2 hlen
      have hleft : rangeLeft wr b W.heap.size = todo.length := hrg.left_eq
      have hlt : todo'.length < todo.length := by have := hpm.length_eq; simp at this; omega
      have HQ : Hid (_ ∧ _ ∧ _) := ⟨hp2, hleft, hlt⟩
      obtain ⟨p1, p2⟩ := p
      simp only at hx
      subst hx
      clear hp2 hleft hlt hs2 hpL hpm hrg hg2 hks HP hlen
      gi_wp2
      refine hR.mono ?_
      rintro e W3 (⟨rfl, hJ3, hk3⟩ | ⟨rfl, hJx3⟩)
      · have hrg3 := hrg2.of_walks hk3
        gi_wp2
        go_roundw
        case rel => exact ⟨pre ++ [x], todo', hrg3, HQ.out.1, hJ3⟩
        case measure => rw [hrg3.left_eq, HQ.out.2.1]; exact HQ.out.2.2
      · gi_wp2
        refine bodyPost_ret (results_none rfl _ _ _) rfl ?_
        exact ⟨⟨_, rfl⟩, .inr ⟨pre ++ [x], trivial, hJx3⟩⟩

set_option maxRecDepth 100000 in
set_option maxHeartbeats 1000000 in
theorem keys1_nil_in (n : Nat) (l Bm : Nat) (J Jx : List ByteArray → World → Prop)
    (W : World) (hJ : AbidesFrom W.heap.size J) (hm : W.cell? ⟨Bm, 0, none⟩ = some (.map none)) (h0 : J [] W) :
    CallsIn Fence.wide n Try.prog 31 #[.func (.yield l) #[] #[], .pointer (some ⟨Bm, 0, none⟩)] W fun e W' => (∃ v, e = .returned v) ∧
      ((∃ ss : List ByteArray, ss.Perm [] ∧ J ss W') ∨ (∃ pre : List ByteArray, True ∧ Jx pre W')) := by
  have hrun0 := run_range_nilMap (P := Try.prog) W 36 9 _ Try.underlying36
  have hnx := run_next_nilMap (P := Try.prog) W 0 0 0 #[]
  have hJ0 : J [] (W.alloc (.mapIter none 0 #[] 0)) := hJ [] W _ none h0 (World.grownBy_alloc W _ none) (fun r e => by cases e)
  refine callsIn_of_wp Try.func31 rfl trivial ?_ rfl
  simp only [Try.ntmps31, List.size_toArray, List.length_cons, List.length_nil, Nat.reduceAdd, Nat.reduceSub, Array.replicate_succ, Array.replicate_zero, List.push_toArray, List.append_toArray, List.nil_append, List.cons_append]
  gi_wp2
  gi_loopw [3] (fun _ wr => wr = W.alloc (.mapIter none 0 #[] 0)) (fun _ _ => 0)
  case atStart => rfl
  case round =>
    subst hrel
    gi_wp2
    go_end0
    exact ⟨⟨_, rfl⟩, .inl ⟨[], List.Perm.refl _, hJ0⟩⟩

/-- maps.Keys(m): the map is boxed; the function value captures the box -/
theorem keys_in (n : Nat) (m : Option Nat) (w : World) :
    CallsIn Fence.wide n Try.prog 26 #[.map m] w fun e w' => e = .returned (.func (.func 31) #[] #[.pointer (some ⟨w.heap.size, 0, none⟩)]) ∧ w' = w.alloc (.cells #[.map m] 36) := by
  refine callsIn_of_wp Try.func26 rfl trivial ?_ rfl
  simp only [Try.ntmps26, List.size_toArray, List.length_cons, List.length_nil, Nat.reduceAdd, Nat.reduceSub, Array.replicate_succ, Array.replicate_zero, List.push_toArray, List.append_toArray, List.nil_append, List.cons_append]
  gi_wp2
  go_ret
  exact ⟨rfl, rfl⟩

theorem keys_call (m : Option Nat) (w : World) :
    Calls Try.prog 26 #[.map m] w fun e w' => e = .returned (.func (.func 31) #[] #[.pointer (some ⟨w.heap.size, 0, none⟩)]) ∧ w' = w.alloc (.cells #[.map m] 36) :=
  (callsIn_wide (n := 3)).1 (keys_in 3 m w)

/-- what m's keys are: none where m is nil -/
def KeysAre (w : World) (m : Option Nat) (ks : List ByteArray) : Prop :=
  (m = none ∧ ks = []) ∨ ∃ b L, m = some b ∧ MapIs Try.prog w 9 b L ∧ L.map (·.1) = ks.map Value.string

theorem KeysAre.below {w w' : World} {m : Option Nat} {ks : List ByteArray} (h : KeysAre w m ks) (hb : Below w.heap.size w w') : KeysAre w' m ks := by
  rcases h with h | ⟨b, L, h1, h2, h3⟩
  · exact .inl h
  · exact .inr ⟨b, L, h1, h2.below hb, h3⟩

theorem keys_stops (n : Nat) (hn : 1 ≤ n) (Bm : Nat) (m : Option Nat) (ks : List ByteArray) (w : World) (hBm : Bm < w.heap.size) (hm : w.cell? ⟨Bm, 0, none⟩ = some (.map m)) (hk : KeysAre w m ks) :
    SeqStopsK Fence.wide n Try.prog 31 #[.pointer (some ⟨Bm, 0, none⟩)] (fun x : ByteArray => #[Value.string x]) KeepsWalks (fun ss => ss.Perm ks) (fun _ => True) ks.length w := fun l J Jx W hW hJ _ hY h0 => by
  have hm' := (hW.cell (p := ⟨Bm, 0, none⟩) hBm).trans hm
  rcases hk with ⟨rfl, rfl⟩ | ⟨b, L, rfl, hmap, hks⟩
  · exact keys1_nil_in n l Bm J Jx W hJ hm' h0
  · exact keys1_in n hn l Bm b L ks hks J Jx hY W hJ hm' (hmap.below hW) h0
end Go.Proofs.Qxb6632526a
