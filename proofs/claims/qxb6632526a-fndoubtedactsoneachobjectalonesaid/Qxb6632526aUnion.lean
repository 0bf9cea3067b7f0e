/- planUnionSorted -/
import Derived.Test.Qxb6632526aNamesOf
namespace Go.Proofs.Qxb6632526a
open Go.RowKit Go.Maps

def SetMap (xs : List ByteArray) (M : List (Value × Value)) : Prop := ∀ p, p ∈ M ↔ ∃ x ∈ xs, p = (.string x, .bool true)

theorem setMap_nil : SetMap [] [] := fun p => by simp

theorem SetMap.add {xs : List ByteArray} {M M' : List (Value × Value)} {x : ByteArray} (h : SetMap xs M) (h' : ∀ p, p ∈ M' ↔ p = (.string x, .bool true) ∨ (p.1 ≠ .string x ∧ p ∈ M)) : SetMap (xs ++ [x]) M' := by
  intro p
  rw [h' p, h p]
  constructor
  · rintro (rfl | ⟨_, y, hy, rfl⟩)
    · exact ⟨x, by simp, rfl⟩
    · exact ⟨y, by simp [hy], rfl⟩
  · rintro ⟨y, hy, rfl⟩
    rcases List.mem_append.1 hy with hy | hy
    · by_cases e : y = x
      · subst e; exact .inl rfl
      · exact .inr ⟨by simpa using e, y, hy, rfl⟩
    · simp at hy
      subst hy
      exact .inl rfl

theorem run_makeMap68 (w : World) : (Instr.makeMap 68 none).run Try.prog w = .ok (.map (some w.heap.size)) (w.alloc (.map #[] 0)) := rfl

structure UHyp (w : World) (g a e : SV) (gs ts : List ByteArray) (es : List Ep) : Prop where
  g : StrsAt w g gs
  a : StrsAt w a ts
  e : EpsAt w e es
  up : (gs.map txt).Pairwise (· < ·)
  ga : ∀ x ∈ ts, x ∈ gs
  ge : ∀ y ∈ es, y.n ∈ gs
  all : ∀ x ∈ gs, x ∈ ts ∨ ∃ y ∈ es, y.n = x
  sz : ∀ x ∈ gs, x.size ≤ 1048576
  lg : gs.length ≤ 4194304
  la : ts.length ≤ 4194304
  le : es.length ≤ 4194304

def UPost (w : World) (e : Ending) (w' : World) : Prop := e = .returned (.bool true) ∧ Below w.heap.size w w'

set_option maxRecDepth 100000 in
set_option maxHeartbeats 8000000 in
theorem union (g a e : SV) (gs ts : List ByteArray) (es : List Ep) (w : World) (h : UHyp w g a e gs ts es) : Calls Try.prog 13 #[.slice g.a g.l g.c, .slice a.a a.l a.c, .slice e.a e.l e.c] w (UPost w) := by
  obtain ⟨ga, gl, gc⟩ := g
  obtain ⟨aa, al, ac⟩ := a
  obtain ⟨ea, el, ec⟩ := e
  have hl1 : gl = gs.length := h.g.len
  have hl2 : al = ts.length := h.a.len
  have hl3 : el = es.length := h.e.len
  subst hl1
  subst hl2
  subst hl3
  simp only
  have hlg := h.lg
  have hla := h.la
  have hle := h.le
  have H : Hid (UHyp w ⟨ga, gs.length, gc⟩ ⟨aa, ts.length, ac⟩ ⟨ea, es.length, ec⟩ gs ts es) := h
  clear h
  have hmm := run_makeMap68
  go_enter Try.func13, Try.ntmps13
  go_wp2
  go_loopw [7] (fun i wr => ∃ j : Nat, j ≤ gs.length ∧ i = .int .i64 ((j : Int) + 1) ∧ Below w.heap.size w wr) (fun i _ => gs.length + 1 - (intOf i).toNat)
  case atStart => exact ⟨0, Nat.zero_le _, rfl, Below.refl _ _⟩
  case round =>
    obtain ⟨j, hj, rfl, hb⟩ := hrel
    by_cases hlt : j + 1 < gs.length
    · obtain ⟨b1, off1, e1, c1⟩ := (H.out.g.below hb).cell j (by omega)
      obtain ⟨b2, off2, e2, c2⟩ := (H.out.g.below hb).cell (j + 1) hlt
      simp only at e1 e2
      subst e1
      cases e2
      have hup : txt gs[j] < txt gs[j + 1] := by
        have := List.pairwise_iff_getElem.1 H.out.up j (j + 1) (by simp; omega) (by simp; omega) (by omega)
        simpa using this
      have hless : Op.bytesLess gs[j].toList gs[j + 1].toList = true := by
        rw [bytesLess_eq, Lib.toList_data, Lib.toList_data]
        exact decide_eq_true hup
      have HB : Hid (Below w.heap.size w wr) := hb
      have hz1 : (0 : Int) ≤ (j : Int) := by omega
      have hz2 : (j : Int) < (gs.length : Int) := by omega
      have hz3 : (0 : Int) ≤ (j : Int) + 1 := by omega
      have hz4 : (j : Int) + 1 < (gs.length : Int) := by omega
      clear hb hup
      go_wp2_with fail
      go_quiet (fail)
      go_wp2
      go_roundw
      case rel => exact ⟨j + 1, by omega, by go_num, below_drewN HB.out _⟩
      case measure => simp [intOf]; omega
    · have HB : Hid (Below w.heap.size w wr) := hb
      have HM : Hid (MapIs Try.prog (wr.alloc (.map #[] 0)) 9 wr.heap.size [] ∧ Below wr.heap.size wr (wr.alloc (.map #[] 0))) := ⟨MapIs.made Try.prog wr 9, below_alloc _ _⟩
      clear hb
      go_wp2_with fail
      generalize wr.alloc _ = wM at *
      obtain ⟨W0, rfl⟩ : ∃ W0, W0 = wr := ⟨_, rfl⟩
      go_loopw [9] (fun i wr => ∃ (j : Nat) (M : List (Value × Value)), j ≤ gs.length ∧ i = .int .i64 j ∧ MapIs Try.prog wr 9 W0.heap.size M ∧ SetMap (gs.take j) M ∧ Below W0.heap.size W0 wr) (fun i _ => gs.length - (intOf i).toNat)
      case atStart => exact ⟨0, [], Nat.zero_le _, rfl, HM.out.1, by rw [List.take_zero]; exact setMap_nil, HM.out.2⟩
      case round =>
        clear HM
        obtain ⟨k, M, hk, rfl, hmap, hset, hbw⟩ := hrel
        by_cases hlt2 : k < gs.length
        · obtain ⟨b1, off1, e1, c1⟩ := ((H.out.g.below HB.out).below hbw).cell k hlt2
          simp only at e1
          subst e1
          have hkey : keyOf Try.prog 9 (.string gs[k]) = some (.string gs[k].data.toList) := key_str (by have := H.out.sz _ (List.getElem_mem hlt2); unfold maxLen; omega)
          obtain ⟨w', M', hrun, his, hg, hsz, hmem⟩ := MapIs.store (val := .bool true) hmap keyed9 Try.underlying68 hkey
          have htk : gs.take (k + 1) = gs.take k ++ [gs[k]] := List.take_succ_eq_append_getElem hlt2
          have G : Hid (MapIs Try.prog w' 9 W0.heap.size M' ∧ SetMap (gs.take (k + 1)) M' ∧ Below W0.heap.size W0 w') := ⟨his, by rw [htk]; exact hset.add hmem, hbw.grown hg hbw.size (fun j e => by cases e; exact Nat.le_refl _)⟩
          clear his hg hsz hmem htk hkey hmap hset hbw
          go_wp2
          go_roundw
          case rel => exact ⟨k + 1, M', by omega, by go_num, G.out⟩
          case measure => simp [intOf]; omega
        · rw [List.take_of_length_le (by omega)] at hset
          have H1 : Hid (Below w.heap.size w wr ∧ MapIs Try.prog wr 9 W0.heap.size M ∧ SetMap gs M) := ⟨HB.out.trans (hbw.mono HB.out.size), hmap, hset⟩
          have HM : Hid (MapIs Try.prog (wr.alloc (.map #[] 0)) 9 wr.heap.size [] ∧ Below wr.heap.size wr (wr.alloc (.map #[] 0))) := ⟨MapIs.made Try.prog wr 9, below_alloc _ _⟩
          clear hmap hset hbw
          go_wp2_with fail
          generalize wr.alloc _ = wM2 at *
          obtain ⟨W1, rfl⟩ : ∃ W1, W1 = wr := ⟨_, rfl⟩
          go_loopw [11] (fun i wr => ∃ (j : Nat) (M : List (Value × Value)), j ≤ ts.length ∧ i = .int .i64 j ∧ MapIs Try.prog wr 9 W1.heap.size M ∧ SetMap (ts.take j) M ∧ Below W1.heap.size W1 wr) (fun i _ => ts.length - (intOf i).toNat)
          case atStart => exact ⟨0, [], Nat.zero_le _, rfl, HM.out.1, by rw [List.take_zero]; exact setMap_nil, HM.out.2⟩
          case round =>
            clear HM
            obtain ⟨k3, M3, hk3, rfl, hmap, hset, hbw⟩ := hrel
            by_cases hlt3 : k3 < ts.length
            · obtain ⟨b1, off1, e1, c1⟩ := ((H.out.a.below H1.out.1).below hbw).cell k3 hlt3
              simp only at e1
              subst e1
              have hin : ts[k3] ∈ gs := H.out.ga _ (List.getElem_mem hlt3)
              have hkey : keyOf Try.prog 9 (.string ts[k3]) = some (.string ts[k3].data.toList) := key_str (by have := H.out.sz _ hin; unfold maxLen; omega)
              obtain ⟨w', M', hrun, his, hg, hsz, hmem⟩ := MapIs.store (val := .bool true) hmap keyed9 Try.underlying68 hkey
              have htk : ts.take (k3 + 1) = ts.take k3 ++ [ts[k3]] := List.take_succ_eq_append_getElem hlt3
              have hbw' : Below W1.heap.size W1 w' := hbw.grown hg hbw.size (fun j e => by cases e; exact Nat.le_refl _)
              have hlook := MapIs.look_hit (H1.out.2.1.below hbw') keyed9 Try.underlying68 ((H1.out.2.2 _).2 ⟨_, hin, rfl⟩) false
              have q1 := Keeps.of_grown hg (MapIs.no_cell hmap) _ _ _ c1
              have G : Hid (MapIs Try.prog w' 9 W1.heap.size M' ∧ SetMap (ts.take (k3 + 1)) M' ∧ Below W1.heap.size W1 w') := ⟨his, by rw [htk]; exact hset.add hmem, hbw'⟩
              clear his hg hsz hmem htk hkey hmap hset hbw hbw'
              go_wp2
              go_roundw
              case rel => exact ⟨k3 + 1, M', by omega, by go_num, G.out⟩
              case measure => simp [intOf]; omega
            · rw [List.take_of_length_le (by omega)] at hset
              have G : Hid (MapIs Try.prog wr 9 W1.heap.size M3 ∧ SetMap ts M3 ∧ Below W1.heap.size W1 wr) := ⟨hmap, hset, hbw⟩
              clear hmap hset hbw
              go_wp2_with fail
              go_loopw [12] (fun i wr => ∃ (j : Nat) (M : List (Value × Value)), j ≤ es.length ∧ i = .int .i64 j ∧ MapIs Try.prog wr 9 W1.heap.size M ∧ SetMap (ts ++ (es.take j).map (·.n)) M ∧ Below W1.heap.size W1 wr) (fun i _ => es.length - (intOf i).toNat)
              case atStart => exact ⟨0, M3, Nat.zero_le _, rfl, G.out.1, by rw [List.take_zero, List.map_nil, List.append_nil]; exact G.out.2.1, G.out.2.2⟩
              case round =>
                clear G
                obtain ⟨k4, M4, hk4, rfl, hmap, hset, hbw⟩ := hrel
                by_cases hlt4 : k4 < es.length
                · obtain ⟨b1, off1, e1, c1, c2⟩ := ((H.out.e.below H1.out.1).below hbw).cell k4 hlt4
                  simp only at e1
                  subst e1
                  have hin : es[k4].n ∈ gs := H.out.ge _ (List.getElem_mem hlt4)
                  have hkey : keyOf Try.prog 9 (.string es[k4].n) = some (.string es[k4].n.data.toList) := key_str (by have := H.out.sz _ hin; unfold maxLen; omega)
                  obtain ⟨w', M', hrun, his, hg, hsz, hmem⟩ := MapIs.store (val := .bool true) hmap keyed9 Try.underlying68 hkey
                  have htk : ts ++ (es.take (k4 + 1)).map (·.n) = ts ++ (es.take k4).map (·.n) ++ [es[k4].n] := by rw [List.take_succ_eq_append_getElem hlt4, List.map_append, ← List.append_assoc]; rfl
                  have hbw' : Below W1.heap.size W1 w' := hbw.grown hg hbw.size (fun j e => by cases e; exact Nat.le_refl _)
                  have hlook := MapIs.look_hit (H1.out.2.1.below hbw') keyed9 Try.underlying68 ((H1.out.2.2 _).2 ⟨_, hin, rfl⟩) false
                  have q1 := Keeps.of_grown hg (MapIs.no_cell hmap) _ _ _ c1
                  have G : Hid (MapIs Try.prog w' 9 W1.heap.size M' ∧ SetMap (ts ++ (es.take (k4 + 1)).map (·.n)) M' ∧ Below W1.heap.size W1 w') := ⟨his, by rw [htk]; exact hset.add hmem, hbw'⟩
                  clear his hg hsz hmem htk hkey hmap hset hbw hbw'
                  go_wp2
                  go_roundw
                  case rel => exact ⟨k4 + 1, M', by omega, by go_num, G.out⟩
                  case measure => simp [intOf]; omega
                · rw [List.take_of_length_le (by omega)] at hset
                  have G : Hid (MapIs Try.prog wr 9 W1.heap.size M4 ∧ SetMap (ts ++ es.map (·.n)) M4 ∧ Below w.heap.size w wr) := ⟨hmap, hset, H1.out.1.trans (hbw.mono H1.out.1.size)⟩
                  clear hmap hset hbw
                  go_wp2_with fail
                  go_loop [13] (fun i => ∃ j : Nat, j ≤ gs.length ∧ i = .int .i64 j) (fun i => gs.length - (intOf i).toNat)
                  case atStart => exact ⟨0, Nat.zero_le _, rfl⟩
                  case round =>
                    obtain ⟨k5, hk5, rfl⟩ := hrel
                    by_cases hlt5 : k5 < gs.length
                    · obtain ⟨b1, off1, e1, c1⟩ := (H.out.g.below G.out.2.2).cell k5 hlt5
                      simp only at e1
                      subst e1
                      have hin : gs[k5] ∈ ts ++ es.map (·.n) := by
                        rcases H.out.all _ (List.getElem_mem hlt5) with h | ⟨y, hy, e⟩
                        · exact List.mem_append.2 (.inl h)
                        · exact List.mem_append.2 (.inr (List.mem_map.2 ⟨y, hy, e⟩))
                      have hlook := MapIs.look_hit G.out.1 keyed9 Try.underlying68 ((G.out.2.1 _).2 ⟨_, hin, rfl⟩) false
                      clear hin
                      go_wp2
                      go_round
                      case rel => exact ⟨k5 + 1, by omega, by go_num⟩
                      case measure => simp [intOf]; omega
                    · go_wp2
                      go_ret
                      exact ⟨rfl, G.out.2.2⟩
end Go.Proofs.Qxb6632526a
