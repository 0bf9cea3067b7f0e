/- planLast -/
import Derived.Test.Qxb6632526aBuild
namespace Go.Proofs.Qxb6632526a
open Go.RowKit Go.Maps

theorem run_makeMap42 (v : Int) (w : World) : (Instr.makeMap 42 (some (.int .i64 v))).run Try.prog w = .ok (.map (some w.heap.size)) (w.alloc (.map #[] 0)) := rfl

theorem zero31 (w : World) : (zeroValue 31).run Try.prog w = .ok (.slice none 0 0) w := by rfl

theorem txt_inj {a b : ByteArray} (h : txt a = txt b) : a = b := by
  obtain ⟨⟨a⟩⟩ := a
  obtain ⟨⟨b⟩⟩ := b
  simpa [txt] using h

theorem map_txt_inj : ∀ {l m : List ByteArray}, l.map txt = m.map txt → l = m
  | [], [], _ => rfl
  | [], _ :: _, h => by simp at h
  | _ :: _, [], h => by simp at h
  | a :: l, b :: m, h => by
    simp only [List.map_cons, List.cons.injEq] at h
    rw [txt_inj h.1, map_txt_inj h.2]

theorem strs_of_own {w : World} {base : Nat} {u : SV} {nn : List ByteArray} (h : w.ownsRow base 9 1 (.slice u.a u.l u.c) nn.length (nn.map Value.string)) : StrsAt w u nn := by
  rw [← map_encStr, ← List.length_map (f := txt)] at h
  obtain ⟨ss, hs, e⟩ := strs_own h
  rwa [map_txt_inj e] at hs

/-- an owned row and a map are two blocks -/
theorem own_ne_map {P : Program} {w : World} {base b n : Nat} {v : Value} {xs : List Value} {k : TypeId} {L : List (Value × Value)} (h : w.ownsRow base 9 1 v n xs) (hm : MapIs P w k b L) : v.ownBlock ≠ some b := by
  rcases h.2 with ⟨rfl, _⟩ | ⟨g, cap, cur, rfl, _, hg, _⟩
  · simp [Value.ownBlock]
  · intro e
    simp [Value.ownBlock] at e
    subst e
    obtain ⟨es, clock, hb, _⟩ := hm
    rw [hb] at hg
    cases hg

structure LInv (w wr : World) (bl : Nat) (es : List Ep) (v : SV) (nn : List ByteArray) (LL : List (Value × Value)) : Prop where
  own : wr.ownsRow w.heap.size 9 1 (.slice v.a v.l v.c) nn.length (nn.map Value.string)
  map : MapIs Try.prog wr 9 bl LL
  keys : LL.map (·.1) = nn.map Value.string
  last : LastMap es LL
  bel : Below w.heap.size w wr

def LPost (w : World) (es : List Ep) (e : Ending) (w' : World) : Prop := ∃ (v : SV) (nn : List ByteArray) (bl : Nat) (LL : List (Value × Value)), e = .returned (.tuple #[.slice v.a v.l v.c, .map (some bl)]) ∧ LInv w w' bl es v nn LL

set_option maxRecDepth 100000 in
set_option maxHeartbeats 4000000 in
theorem planLast (s : SV) (es : List Ep) (w : World) (h : EpsAt w s es) (hl : es.length ≤ 1048576) (hn : ∀ e ∈ es, e.n.size ≤ 1048576) : Calls Try.prog 14 #[.slice s.a s.l s.c] w (LPost w es) := by
  obtain ⟨a, l, c⟩ := s
  have hle : l = es.length := h.len
  subst hle
  simp only
  have H : Hid (EpsAt w ⟨a, es.length, c⟩ es ∧ ∀ e ∈ es, e.n.size ≤ 1048576) := ⟨h, hn⟩
  clear h hn
  obtain ⟨i0, hi, hz0, hz1, hz2⟩ := info_parts Try.info9
  have hmk : ∀ w : World, (Instr.makeSlice 33 (.int .i64 0) (.int .i64 (es.length : Int))).run Try.prog w = .ok (.slice (some ⟨w.heap.size, 0, none⟩) 0 es.length) (w.alloc (.cells (madeCells #[.string ⟨#[]⟩] es.length) 9)) := fun w => by
    have hr := run_make (P := Try.prog) w 33 9 i0 (.string ⟨#[]⟩) Try.underlying33 hi hz0 .i64 .i64 0 es.length (by omega) (by omega) (by rw [hz2]; omega) (by omega)
    simp only [Int.toNat_zero, Int.toNat_natCast, hz1, Nat.mul_one] at hr
    exact hr
  have hmm := run_makeMap42
  have hI : LInv w ((w.alloc (.cells (madeCells #[.string ⟨#[]⟩] es.length) 9)).alloc (.map #[] 0)) (w.heap.size + 1) [] ⟨some ⟨w.heap.size, 0, none⟩, 0, es.length⟩ [] [] := by
    refine ⟨?_, ?_, rfl, lastMap_nil, (below_alloc w _).trans ((below_alloc _ _).mono (by simp))⟩
    · exact (World.ownsRow_made w (madeCells #[.string ⟨#[]⟩] es.length) es.length (Nat.le_refl _) (by unfold maxLen; omega) (by rw [size_madeCells, Nat.mul_one])).alloc _
    · have := MapIs.made Try.prog (w.alloc (.cells (madeCells #[.string ⟨#[]⟩] es.length) 9)) 9
      rw [World.size_alloc] at this
      exact this
  have HI : Hid (LInv w ((w.alloc (.cells (madeCells #[.string ⟨#[]⟩] es.length) 9)).alloc (.map #[] 0)) (w.heap.size + 1) [] ⟨some ⟨w.heap.size, 0, none⟩, 0, es.length⟩ [] []) := hI
  clear hI
  go_enter Try.func14, Try.ntmps14
  go_wp2_with fail
  clear hmk hmm
  go_loopw [4, 6] (fun nv i wr => ∃ (k : Nat) (v : SV) (nn : List ByteArray) (LL : List (Value × Value)), k ≤ es.length ∧ i = .int .i64 ((k : Int) - 1) ∧ nv = .slice v.a v.l v.c ∧ nn.length + k ≤ es.length ∧ LInv w wr (w.heap.size + 1) (es.drop k) v nn LL) (fun _ i _ => (intOf i + 1).toNat)
  case atStart => exact ⟨es.length, ⟨some ⟨w.heap.size, 0, none⟩, 0, es.length⟩, [], [], Nat.le_refl _, by go_num, rfl, by simp, by rw [List.drop_of_length_le (Nat.le_refl _)]; exact HI.out⟩
  case round =>
    obtain ⟨k0, v, nn, LL, hk, rfl, rfl, hct, hI⟩ := hrel
    cases k0 with
    | zero =>
      have HI2 : Hid (LInv w wr (w.heap.size + 1) es v nn LL) := (by simpa using hI : LInv w wr (w.heap.size + 1) es v nn LL)
      clear hI
      go_wp2_with fail
      exact bodyPost_ret (v := .tuple #[.slice v.a v.l v.c, .map (some (w.heap.size + 1))]) (by simp [results, Try.results14, go_sem]) rfl ⟨v, nn, _, LL, rfl, HI2.out⟩
    | succ k =>
      have hlt : k < es.length := by omega
      have e1 : (((k + 1 : Nat) : Int) - 1) = (k : Int) := by omega
      rw [e1]
      clear e1
      obtain ⟨b, off, ha, c0, c1⟩ := (H.out.1.below hI.bel).cell k hlt
      simp only at ha
      subst ha
      have hdrop : es.drop k = es[k] :: es.drop (k + 1) := List.drop_eq_getElem_cons hlt
      have hkey : keyOf Try.prog 9 (.string es[k].n) = some (.string es[k].n.data.toList) := key_str (by have := H.out.2 _ (List.getElem_mem hlt); unfold maxLen; omega)
      generalize es[k] = y at *
      have hy1 : (0 : Int) ≤ (k : Int) := by omega
      have hy2 : (k : Int) < (es.length : Int) := by omega
      cases hs : lastEp (es.drop (k + 1)) y.n with
      | some x =>
        have hlook := MapIs.look_hit hI.map keyed9 Try.underlying42 ((hI.last _).2 ⟨_, _, hs, rfl⟩) true
        have HI2 : Hid (LInv w wr (w.heap.size + 1) (es.drop k) v nn LL) := ⟨hI.own, hI.map, hI.keys, by rw [hdrop]; exact hI.last.skip hs, hI.bel⟩
        clear hI hdrop hs hkey
        go_wp2
        go_roundw
        case rel => exact ⟨k, v, nn, LL, by omega, by go_num, rfl, by omega, HI2.out⟩
        case measure => simp [intOf]
      | none =>
        have hno : (Value.string y.n) ∉ LL.map (·.1) := fun hm => by
          obtain ⟨e, he, e2⟩ := (hI.last.keys _).1 hm
          exact lastEp_none.1 hs e he (by simpa using e2.symm)
        have hlook := MapIs.look_miss hI.map keyed9 Try.underlying42 (zero31 wr) hkey hno true
        have hmapD : MapIs Try.prog wr.drew 9 (w.heap.size + 1) LL := hI.map.below (Below.refl _ _).drew
        obtain ⟨w', hrun, his, hg, hsz⟩ := MapIs.store_new (val := .slice y.b.a y.b.l y.b.c) hmapD keyed9 Try.underlying42 hkey hno
        have hkp : Keeps wr.drew w' := Keeps.of_grown hg (MapIs.no_cell hmapD)
        have q0 := hkp _ _ _ (show wr.drew.cell? _ = _ from c0)
        have q1 := hkp _ _ _ (show wr.drew.cell? _ = _ from c1)
        have r0 : wr.drew.cell? _ = _ := c0
        have r1 : wr.drew.cell? _ = _ := c1
        have hownD : wr.drew.ownsRow w.heap.size 9 1 (.slice v.a v.l v.c) nn.length (nn.map Value.string) := hI.own
        have G : Hid (w'.ownsRow w.heap.size 9 1 (.slice v.a v.l v.c) nn.length (nn.map Value.string) ∧ MapIs Try.prog w' 9 (w.heap.size + 1) (LL ++ [(.string y.n, .slice y.b.a y.b.l y.b.c)]) ∧ (LL ++ [(Value.string y.n, Value.slice y.b.a y.b.l y.b.c)]).map (·.1) = (nn ++ [y.n]).map Value.string ∧ LastMap (es.drop k) (LL ++ [(.string y.n, .slice y.b.a y.b.l y.b.c)]) ∧ Below w.heap.size w w') :=
          ⟨hownD.kept hg (.inr (own_ne_map hownD hmapD)), his, by simp [hI.keys], by rw [hdrop]; exact hI.last.under hs, hI.bel.drew.grown hg hI.bel.drew.size (fun j e => by cases e; omega)⟩
        clear hI hdrop hs hno hkey hmapD his hg hsz hkp hownD
        go_wp2_with fail
        go_region_held2 (fun w' => w'.cell? ⟨b, off + k * 2, none⟩ = some (.string y.n) ∧ w'.cell? ⟨b, off + k * 2 + 1, none⟩ = some (.slice y.b.a y.b.l y.b.c))
          (first | with_reducible exact ⟨r0, r1⟩ | with_reducible exact ⟨q0, q1⟩)
          (fail)
        go_wp2_with (first | (at_builtin; refine wpList_append_own _ rfl _ _ 33 rfl w.heap.size 9 i0 (.string ⟨#[]⟩) 1 16 Try.underlying33 hi hz0 hz1 hz2 rfl (by decide) _ _ _ rfl (G.out.1.alloc _) ⟨w'.heap.size, 0, none⟩ 1 1 [.string y.n] rfl rfl (cell_one_new _ _ _) (str_oneCell y.n) (by unfold maxLen; omega) (by omega) (by have := G.out.2.2.2.2.size; simp; omega) ?_; intro v' w1 hown' hgrow _))
        obtain ⟨g', cap', rfl⟩ := ownsRow_succ hown'
        have hgrow' : (w'.alloc (Obj.cells #[Value.string y.n] 9)).grownBy w1 (Value.slice v.a v.l v.c).ownBlock := hgrow
        have hI : LInv w w1 (w.heap.size + 1) (es.drop k) ⟨some ⟨g', 0, none⟩, nn.length + 1, cap'⟩ (nn ++ [y.n]) (LL ++ [(.string y.n, .slice y.b.a y.b.l y.b.c)]) := by
          obtain ⟨h1, h2, h3, h4, h5⟩ := G.out
          have hb1 := h5.alloc h5.size (Obj.cells #[Value.string y.n] 9)
          refine ⟨by simpa using hown', (h2.alloc _).kept hgrow' (own_ne_map h1 h2).symm, h3, h4, hb1.grown hgrow' hb1.size fun j e => ?_⟩
          rcases h1.2 with ⟨e2, _⟩ | ⟨g, cap, cur, e2, hbase, _⟩
          · rw [e2] at e; simp [Value.ownBlock] at e
          · rw [e2] at e
            simp [Value.ownBlock] at e
            omega
        clear hgrow hgrow' hown'
        go_roundw
        case rel => exact ⟨k, ⟨some ⟨g', 0, none⟩, nn.length + 1, cap'⟩, nn ++ [y.n], _, by omega, by go_num, rfl, by rw [List.length_append, List.length_singleton]; omega, hI⟩
        case measure => simp [intOf]
end Go.Proofs.Qxb6632526a
