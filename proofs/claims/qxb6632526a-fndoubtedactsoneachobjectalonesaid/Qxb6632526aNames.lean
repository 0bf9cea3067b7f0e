/- slices.Clone, slices.Sort, slices.Compact on slices of texts that the call itself owns -/
import Derived.Test.Qxb6632526aSeq
import Derived.Test.Qxb6632526aState
import Derived.Test.Qxb6632526aShelf
import Derived.Test.Qxb6632526aSets
import Derived.Sort.OwnSorted
import Derived.Lib.RowBridge
namespace Go.Proofs.Qxb6632526a
open Go.RowKit Go.Sort Go.Lib

/-- a slice of texts, nil or not -/
structure StrsAt (w : World) (s : SV) (ss : List ByteArray) : Prop where
  len : s.l = ss.length
  nil : s.a = none → s.c = 0 ∧ ss = []
  cap : s.l ≤ s.c
  cell : ∀ i, (h : i < ss.length) → ∃ b off, s.a = some ⟨b, off, none⟩ ∧ w.cell? ⟨b, off + i, none⟩ = some (.string ss[i])

theorem StrsAt.below {w w' : World} {s : SV} {ss : List ByteArray} (h : StrsAt w s ss) (hb : Below w.heap.size w w') : StrsAt w' s ss :=
  ⟨h.len, h.nil, h.cap, fun i hi => by
    obtain ⟨b, off, e, hc⟩ := h.cell i hi
    exact ⟨b, off, e, (hb.cell (World.block_lt_of_cell? w _ hc)).trans hc⟩⟩

/-- every cell that it leads to lies below B -/
theorem StrsAt.belowB {w w' : World} {s : SV} {ss : List ByteArray} {B : Nat} (h : StrsAt w s ss) (hs : ∀ x, s.a = some x → x.block < B) (hb : Below B w w') : StrsAt w' s ss :=
  ⟨h.len, h.nil, h.cap, fun i hi => by
    obtain ⟨b, off, e, hc⟩ := h.cell i hi
    exact ⟨b, off, e, (hb.cell (p := ⟨b, off + i, none⟩) (hs ⟨b, off, none⟩ e)).trans hc⟩⟩

def txt (s : ByteArray) : Txt := s.data.toList

theorem encStr_txt (s : ByteArray) : encStr (txt s) = .string s := by
  unfold encStr txt
  simp

theorem map_encStr (ss : List ByteArray) : (ss.map txt).map encStr = ss.map Value.string := by
  rw [List.map_map]
  exact List.map_congr_left fun s _ => encStr_txt s

theorem clone_own (s : SV) (ss : List ByteArray) (w : World) (h : StrsAt w s ss) (hl : ss.length ≤ 4194304) :
    Calls Try.prog 25 #[.slice s.a s.l s.c] w fun e w' => ∃ v : SV, e = .returned (.slice v.a v.l v.c) ∧ w'.ownsRow w.heap.size 9 1 (.slice v.a v.l v.c) ss.length (ss.map Value.string) ∧ Below w.heap.size w w' := by
  obtain ⟨a, l, c⟩ := s
  obtain ⟨hlen, hnil, hcap, hcell⟩ := h
  simp only at *
  cases a with
  | none =>
    obtain ⟨rfl, rfl⟩ := hnil rfl
    refine (Try.slices_Clone_string_nil l 0 w).mono ?_
    rintro e w' ⟨rfl, rfl⟩
    exact ⟨.nil, rfl, World.ownsRow_nil _ _ _ _, Below.refl _ _⟩
  | some x =>
    have fin : ∀ (v' : Value) (w' : World), w'.ownsRow w.heap.size 9 1 v' ss.length (ss.map Value.string) → ∃ v : SV, v' = .slice v.a v.l v.c := by
      intro v' w' ho
      rcases ho.2 with ⟨rfl, _⟩ | ⟨g, cap, cur, rfl, _⟩
      · exact ⟨.nil, rfl⟩
      · exact ⟨⟨_, _, _⟩, rfl⟩
    by_cases h0 : ss.length = 0
    · have hss : ss = [] := List.length_eq_zero_iff.1 h0
      subst hss
      simp only [List.length_nil] at hlen
      subst hlen
      refine (Try.slices_Clone_string_zero x c w).mono ?_
      rintro e w' ⟨v', rfl, ho, _, hb⟩
      obtain ⟨v, rfl⟩ := fin v' w' ho
      exact ⟨v, rfl, ho, hb⟩
    · obtain ⟨b, off, e, _⟩ := hcell 0 (by omega)
      simp only [Option.some.injEq] at e
      subst e
      subst hlen
      refine (Try.slices_Clone_string b off ss.length c ss w (Nat.le_refl _) (by omega) ?_).mono ?_
      · intro j hj
        obtain ⟨b', off', e, hc⟩ := hcell j hj
        simp only [Option.some.injEq, Addr.mk.injEq] at e
        obtain ⟨rfl, rfl, _⟩ := e
        rw [hc]
        simp [hj]
      · rintro e w' ⟨v', rfl, ho, _, hb⟩
        rw [List.take_of_length_le (Nat.le_refl _)] at ho
        obtain ⟨v, rfl⟩ := fin v' w' ho
        exact ⟨v, rfl, ho, hb⟩

theorem sort_own (base : Nat) (v : SV) (ss : List Txt) (w : World) (h : w.ownsRow base 9 1 (.slice v.a v.l v.c) ss.length (ss.map encStr)) (hb : base ≤ w.heap.size) (hl : ss.length ≤ 4194304) :
    Calls Try.prog 27 #[.slice v.a v.l v.c] w fun e w' => e = .returned (.tuple #[]) ∧ w'.ownsRow base 9 1 (.slice v.a v.l v.c) (srt ss).length ((srt ss).map encStr) ∧ Below base w w' := by
  obtain ⟨a, l, c⟩ := v
  simp only at *
  have hsl : (srt ss).length = ss.length := (srt_perm ss).length_eq
  rcases h.2 with ⟨hv, h0⟩ | ⟨g, cap, cur, hv, hbase, hblk, h1, h2, h3, h4⟩
  · simp at hv
    obtain ⟨rfl, rfl, rfl⟩ := hv
    have hss : ss = [] := List.length_eq_zero_iff.1 h0
    subst hss
    refine (Try.slices_Sort_string_none none 0 w).mono ?_
    rintro e w' ⟨rfl, rfl⟩
    exact ⟨rfl, by have e : srt [] = [] := by simp [srt]
                   rw [e]; exact h, Below.refl _ _⟩
  · simp at hv
    obtain ⟨rfl, rfl, rfl⟩ := hv
    refine (Try.slices_Sort_string g 0 c ss w (holds_of_block hblk (by simpa using h4)) (Array.getElem?_eq_some_iff.1 hblk).1 (by omega)).mono ?_
    rintro e w' ⟨rfl, n, os, rfl⟩
    refine ⟨rfl, ?_, (Below.refl _ _).grown (grownBy_sorted _) hb (fun k e => by cases e; exact hbase)⟩
    have := ownsRow_sorted (w := w) (n := n) (os := os) (ss := ss) (ts := srt ss) (e := 9) hsl hbase hblk h1 h2 h3
    rw [hsl]
    exact this

theorem compact_own (base : Nat) (v : SV) (ss : List Txt) (w : World) (h : w.ownsRow base 9 1 (.slice v.a v.l v.c) ss.length (ss.map encStr)) (hb : base ≤ w.heap.size) (hl : ss.length ≤ 4194304) :
    Calls Try.prog 28 #[.slice v.a v.l v.c] w fun e w' => ∃ u : SV, e = .returned (.slice u.a u.l u.c) ∧ w'.ownsRow base 9 1 (.slice u.a u.l u.c) (compact ss).length ((compact ss).map encStr) ∧ Below base w w' := by
  obtain ⟨a, l, c⟩ := v
  simp only at *
  rcases h.2 with ⟨hv, h0⟩ | ⟨g, cap, cur, hv, hbase, hblk, h1, h2, h3, h4⟩
  · simp at hv
    obtain ⟨rfl, rfl, rfl⟩ := hv
    have hss : ss = [] := List.length_eq_zero_iff.1 h0
    subst hss
    refine (Try.slices_Compact_string_empty none 0 w).mono ?_
    rintro e w' ⟨rfl, rfl⟩
    exact ⟨.nil, rfl, h, Below.refl _ _⟩
  · simp at hv
    obtain ⟨rfl, rfl, rfl⟩ := hv
    refine (Try.slices_Compact_string g 0 c ss w (holds_of_block hblk (by simpa using h4)) (by omega) h1).mono ?_
    rintro e w' ⟨rfl, q, rfl⟩
    refine ⟨⟨some ⟨g, 0, none⟩, _, c⟩, rfl, ?_, ?_⟩
    · have hcl := compact_length_le ss
      have hts : (compact ss ++ List.replicate (ss.length - (compact ss).length) ([] : Txt)).length = ss.length := by simp; omega
      have hheap := heap_sorted (n := q) (os := #[]) (compact ss ++ List.replicate (ss.length - (compact ss).length) ([] : Txt)).toArray hblk
      rw [grow_empty] at hheap
      have htk := take_putCells cur (compact ss ++ List.replicate (ss.length - (compact ss).length) ([] : Txt)) (by rw [hts]; omega)
      refine ⟨by simp, .inr ⟨g, c, _, rfl, hbase, hheap, by omega, h2, by simp [putCells, h3], ?_⟩⟩
      have h5 := congrArg (List.take (compact ss).length) htk
      rw [List.take_take, hts, Nat.min_eq_left hcl, ← List.map_take, List.take_left] at h5
      rw [Nat.mul_one]
      exact h5
    · have := grownBy_sorted (w := w) (g := g) (n := q) (os := #[]) (compact ss ++ List.replicate (ss.length - (compact ss).length) ([] : Txt)).toArray
      rw [grow_empty] at this
      exact (Below.refl _ _).grown this hb (fun k e => by cases e; exact hbase)
end Go.Proofs.Qxb6632526a
