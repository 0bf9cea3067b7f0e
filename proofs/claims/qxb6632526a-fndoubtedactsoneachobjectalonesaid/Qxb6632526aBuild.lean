/- planBuild -/
import Derived.Test.Qxb6632526aFlag
namespace Go.Proofs.Qxb6632526a
open Go.RowKit Go.Maps

theorem Try.info4 : (Try.prog.info? 4).map (fun i => (i.zero, i.size, i.bytes)) = some (some (.bool false), 1, 1) := by kernel_rfl

structure BInv (w wr : World) (b Be : Nat) (L : List Ob) (k : Nat) (S : List (Pl × Co)) : Prop where
  st : StateIs wr b S
  bel : Below w.heap.size w wr
  row : Row wr Be L.length
  eff : ∀ i, (h : i < L.length) → wr.cell? ⟨Be, i, none⟩ = some (.bool (if i < k then false else wins L[i] (L.drop (i + 1))))
  rel : Rel wr b S ((wl (flag (L.drop k))).reverse)

theorem BInv.below {w wr w' : World} {b Be : Nat} {L : List Ob} {k : Nat} {S : List (Pl × Co)} (h : BInv w wr b Be L k S) (hb : Below wr.heap.size wr w') : BInv w w' b Be L k S :=
  ⟨MapIs.below h.st hb, h.bel.trans (hb.mono h.bel.size), h.row.below hb, fun i hi => (hb.cell (p := ⟨Be, i, none⟩) h.row.lt).trans (h.eff i hi), h.rel.turn fun _ _ he => he.below hb⟩

/-- one that does not win -/
theorem BInv.skip {w wr : World} {b Be : Nat} {L : List Ob} {k : Nat} {S : List (Pl × Co)} (h : BInv w wr b Be L (k + 1) S) (hk : k < L.length) (hw : wins L[k] (L.drop (k + 1)) = false) : BInv w wr b Be L k S := by
  refine ⟨h.st, h.bel, h.row, fun i hi => ?_, ?_⟩
  · rw [h.eff i hi]
    by_cases h1 : i < k
    · simp [h1, show i < k + 1 by omega]
    · by_cases h2 : i = k
      · subst h2
        simp [hw]
      · simp [h1, show ¬ i < k + 1 by omega]
  · have := h.rel
    rw [List.drop_eq_getElem_cons hk, wl_cons, hw]
    simpa using this

/-- one that wins -/
theorem BInv.put {w wr w' : World} {b Be : Nat} {L : List Ob} {k : Nat} {S : List (Pl × Co)} {m : Option Nat} (h : BInv w wr b Be L (k + 1) S) (hk : k < L.length) (hw : wins L[k] (L.drop (k + 1)) = true) (hwb : w.heap.size ≤ b) (hwB : w.heap.size ≤ Be)
    (hst : StateIs w' b (S ++ [(L[k].pl, L[k].co m)])) (he : EndMap w' b m L[k]) (hg : (wr.setCell ⟨Be, k, none⟩ (.bool true)).grownBy w' (some b)) : BInv w w' b Be L k (S ++ [(L[k].pl, L[k].co m)]) := by
  have hr1 := h.row.set k (.bool true)
  have hst1 : StateIs (wr.setCell ⟨Be, k, none⟩ (.bool true)) b S := MapIs.set h.st h.row k _
  have hb1 := h.bel.setCell (p := ⟨Be, k, none⟩) hwB (.bool true)
  have hk1 : Keeps (wr.setCell ⟨Be, k, none⟩ (.bool true)) w' := Keeps.of_grown hg (MapIs.no_cell hst1)
  refine ⟨hst, hb1.grown hg hb1.size (fun j e => by cases e; exact hwb), hr1.kept hg hst1, fun i hi => ?_, ?_⟩
  · by_cases h2 : i = k
    · subst h2
      rw [hk1 _ _ _ (set_here _ h.row hi)]
      simp [hw]
    · have h3 := h.eff i hi
      rw [← set_near (i := k) (.bool true) (fun e => h2 e.symm)] at h3
      rw [hk1 _ _ _ h3]
      by_cases h1 : i < k
      · simp [h1, show i < k + 1 by omega]
      · simp [h1, show ¬ i < k + 1 by omega]
  · rw [List.drop_eq_getElem_cons hk, wl_cons, hw]
    simp only [if_true, List.reverse_cons]
    exact (h.rel.turn fun _ _ e => (e.set h.row k _).kept hg).snoc he

def BPost (w : World) (L : List Ob) (e : Ending) (w' : World) : Prop := ∃ (b Be : Nat) (S : List (Pl × Co)), e = .returned (.tuple #[.map (some b), .slice (some ⟨Be, 0, none⟩) L.length L.length, .int .i64 (S.length : Nat)]) ∧ BInv w w' b Be L 0 S

set_option maxRecDepth 100000 in
set_option maxHeartbeats 4000000 in
theorem build (s : SV) (L : List Ob) (B : Nat) (w : World) (h : ObsAt w s L) (hf : ∀ x ∈ L, x.Fine w B) (hL : L.length ≤ 1048576) : Calls Try.prog 8 #[.slice s.a s.l s.c] w (BPost w L) := by
  obtain ⟨a, l, c⟩ := s
  have hl : l = L.length := h.len
  subst hl
  simp only
  have H : Hid (ObsAt w ⟨a, L.length, c⟩ L ∧ ∀ x ∈ L, x.Fine w B) := ⟨h, hf⟩
  clear h hf
  have hmk := run_make_row' (P := Try.prog) 27 4 (.bool false) 1 Try.underlying27 Try.info4 rfl .i64 .i64 L.length (by omega) (by omega)
  go_enter Try.func8, Try.ntmps8
  go_wp2_with fail
  refine (newState w).mono ?_
  rintro e w1 ⟨rfl, rfl⟩
  have hI : BInv w ((w.alloc (.map #[] 0)).alloc (.cells (madeCells #[.bool false] L.length) 4)) w.heap.size (w.heap.size + 1) L L.length [] := by
    have hb := below_alloc (w.alloc (.map #[] 0)) (.cells (madeCells #[.bool false] L.length) 4)
    have hr := Row.made (w.alloc (.map #[] 0)) #[.bool false] L.length 4
    rw [World.size_alloc] at hr
    refine ⟨(MapIs.made Try.prog w 59).below hb, (below_alloc w _).trans (hb.mono (by simp)), hr, fun i hi => ?_, by rw [List.drop_of_length_le (Nat.le_refl _)]; exact .nil⟩
    have hblk := (MapKept.heap_alloc (w.alloc (.map #[] 0)) (.cells (madeCells #[.bool false] L.length) 4)).1
    rw [World.size_alloc] at hblk
    generalize (w.alloc (.map #[] 0)).alloc _ = W at *
    simp [World.cell?, hblk, madeCells, hi, Nat.mod_one]
  have HI : Hid (BInv w ((w.alloc (.map #[] 0)).alloc (.cells (madeCells #[.bool false] L.length) 4)) w.heap.size (w.heap.size + 1) L L.length []) := hI
  clear hI
  go_wp2_with fail
  clear hmk
  go_loopw [7, 8] (fun ct i wr => ∃ (k : Nat) (S : List (Pl × Co)), k ≤ L.length ∧ i = .int .i64 ((k : Int) - 1) ∧ ct = .int .i64 (S.length : Nat) ∧ S.length + k ≤ L.length ∧ BInv w wr w.heap.size (w.heap.size + 1) L k S) (fun _ i _ => (intOf i + 1).toNat)
  case atStart => exact ⟨L.length, [], Nat.le_refl _, by go_num, rfl, by simp, HI.out⟩
  case round =>
    obtain ⟨k0, S, hk, rfl, rfl, hct, hI⟩ := hrel
    cases k0 with
    | zero =>
      have HI2 : Hid (BInv w wr w.heap.size (w.heap.size + 1) L 0 S) := hI
      clear hI
      go_wp2_with fail
      exact bodyPost_ret (v := .tuple #[.map (some w.heap.size), .slice (some ⟨w.heap.size + 1, 0, none⟩) L.length L.length, .int .i64 (S.length : Nat)]) (by simp [results, Try.results8, go_sem]) rfl ⟨_, _, S, rfl, HI2.out⟩
    | succ k =>
      have hlt : k < L.length := by omega
      have e1 : (((k + 1 : Nat) : Int) - 1) = (k : Int) := by omega
      rw [e1]
      clear e1
      obtain ⟨b, off, ha, N⟩ := (H.out.1.below hI.bel).cell k hlt
      simp only at ha
      subst ha
      have HF : Hid (L[k].Fine wr B) := (H.out.2 _ (List.getElem_mem hlt)).below hI.bel
      have HI2 : Hid (BInv w wr w.heap.size (w.heap.size + 1) L (k + 1) S) := hI
      obtain ⟨c0, c1, c2, c3, c4, c5, c6, c7, c8⟩ := N
      have HX : Hid (BoxAt _ _ _ ∧ Below _ _ _) := ⟨boxed wr L[k], below_alloc wr (.cells #[.string L[k].p, .int .i64 L[k].q, .string L[k].n, .slice L[k].b.a L[k].b.l L[k].b.c, .slice L[k].o.a L[k].o.l L[k].o.c, .slice L[k].e.a L[k].e.l L[k].e.c, .slice L[k].r.a L[k].r.l L[k].r.c, .bool L[k].d, .slice L[k].de.a L[k].de.l L[k].de.c] 35)⟩
      clear hI
      go_wp2_with fail
      generalize hW : wr.alloc _ = W1 at *
      clear hW c0 c1 c2 c3 c4 c5 c6 c7 c8
      have HI3 : Hid (BInv w W1 w.heap.size (w.heap.size + 1) L (k + 1) S) := HI2.out.below HX.out.2
      have hBq : w.heap.size + 1 < wr.heap.size := HI2.out.row.lt
      have HB : Hid (BoxAt W1 wr.heap.size L[k]) := HX.out.1
      have HP : Hid (L[k].pl.Ok) := HF.out.ok
      clear HI2 HX HF
      generalize wr.heap.size = Bq at *
      have hpl : L[k].pl ∈ S.map (·.1) ↔ wins L[k] (L.drop (k + 1)) = false := by
        rw [HI3.out.rel.places, wins_false, ← wl_place]
        simp only [List.map_reverse, List.mem_reverse, List.mem_map]
      by_cases hw : wins L[k] (L.drop (k + 1)) = true
      · have hm : L[k].pl ∉ S.map (·.1) := fun h => by rw [hpl.1 h] at hw; cases hw
        refine (has_miss w.heap.size L[k].pl S W1 HI3.out.st HP.out hm).mono ?_
        rintro e w2 ⟨rfl, hb2⟩
        have I2 : Hid (BInv w w2 w.heap.size (w.heap.size + 1) L (k + 1) S) := HI3.out.below hb2
        have B2 := HB.out.below hb2
        have ce := I2.out.eff k hlt
        rw [if_pos (Nat.lt_succ_self k)] at ce
        have fe := I2.out.row.frozen k
        have hne : w.heap.size + 1 ≠ Bq := by omega
        have g0 := (set_far (i := k) (.bool true) hne).trans B2.c0
        have g1 := (set_far (i := k) (.bool true) hne).trans B2.c1
        have g2 := (set_far (i := k) (.bool true) hne).trans B2.c2
        have g3 := (set_far (i := k) (.bool true) hne).trans B2.c3
        have g4 := (set_far (i := k) (.bool true) hne).trans B2.c4
        have g5 := (set_far (i := k) (.bool true) hne).trans B2.c5
        have g6 := (set_far (i := k) (.bool true) hne).trans B2.c6
        have g7 := (set_far (i := k) (.bool true) hne).trans B2.c7
        have g8 := (set_far (i := k) (.bool true) hne).trans B2.c8
        have hS : S.length + 1 ≤ 1048576 := by omega
        have HM : Hid (L[k].pl ∉ S.map (·.1)) := hm
        clear hb2 B2 hm hpl
        go_wp2_with fail
        have hbs : Below w.heap.size w (w2.setCell ⟨w.heap.size + 1, k, none⟩ (.bool true)) := I2.out.bel.setCell (p := ⟨w.heap.size + 1, k, none⟩) (by simp) _
        refine (putObj w.heap.size B L[k] S _ (MapIs.set I2.out.st I2.out.row k _) ((H.out.2 _ (List.getElem_mem hlt)).below hbs) HM.out).mono ?_
        rintro e w3 ⟨rfl, m, hst, hem, hg⟩
        have I3 : Hid (BInv w w3 w.heap.size (w.heap.size + 1) L k (S ++ [(L[k].pl, L[k].co m)])) := I2.out.put hlt hw (Nat.le_refl _) (by omega) hst hem hg
        clear hst hem hg hbs
        go_wp2
        go_roundw
        case rel => exact ⟨k, _, by omega, by go_num, by simp, by rw [List.length_append, List.length_singleton]; omega, I3.out⟩
        case measure => simp [intOf]
      · have hw' : wins L[k] (L.drop (k + 1)) = false := by simpa using hw
        obtain ⟨p, hp, hpe⟩ := List.mem_map.1 (hpl.2 hw')
        obtain ⟨p1, p2⟩ := p
        simp only at hpe
        subst hpe
        refine (has_hit w.heap.size L[k].pl p2 S W1 HI3.out.st hp).mono ?_
        rintro e w2 ⟨rfl, hb2⟩
        have I2 : Hid (BInv w w2 w.heap.size (w.heap.size + 1) L k S) := (HI3.out.below hb2).skip hlt hw'
        clear hb2 hpl hp
        go_wp2
        go_roundw
        case rel => exact ⟨k, _, by omega, by go_num, rfl, by omega, I2.out⟩
        case measure => simp [intOf]
end Go.Proofs.Qxb6632526a
