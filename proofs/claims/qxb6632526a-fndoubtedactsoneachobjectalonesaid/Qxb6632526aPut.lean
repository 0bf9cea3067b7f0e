/- planPut -/
import Derived.Test.Qxb6632526aLast
import Derived.Test.Qxb6632526aDoubt
namespace Go.Proofs.Qxb6632526a
open Go.RowKit Go.Maps

/-- every cell is kept -/
def Keeps (w w' : World) : Prop := ∀ (b off : Nat) (v : Value), w.cell? ⟨b, off, none⟩ = some v → w'.cell? ⟨b, off, none⟩ = some v

theorem Keeps.of_below {w w' : World} (h : Below w.heap.size w w') : Keeps w w' := fun _ _ _ hc => (h.cell (World.block_lt_of_cell? w _ hc)).trans hc

theorem Keeps.trans {w w' w'' : World} (h : Keeps w w') (h' : Keeps w' w'') : Keeps w w'' := fun b off v hc => h' b off v (h b off v hc)

theorem Keeps.of_grown {w w' : World} {r : Nat} (hg : w.grownBy w' (some r)) (hr : ∀ off, w.cell? ⟨r, off, none⟩ = none) : Keeps w w' := by
  intro b off v hc
  have hne : b ≠ r := fun e' => by rw [e', hr] at hc; cases hc
  have hb := hg.block b (World.block_lt_of_cell? w _ hc) (by simpa using hne)
  unfold World.cell? at hc ⊢
  simp only at hc ⊢
  rw [hb]
  exact hc

theorem BytesAt.keeps {w w' : World} {s : SV} {xs : List Int} (h : BytesAt w s xs) (hk : Keeps w w') : BytesAt w' s xs :=
  ⟨h.len, h.nil, h.cap, fun i hi => by
    obtain ⟨b, off, e, hc⟩ := h.cell i hi
    exact ⟨b, off, e, hk _ _ _ hc⟩⟩

theorem StrsAt.keeps {w w' : World} {s : SV} {xs : List ByteArray} (h : StrsAt w s xs) (hk : Keeps w w') : StrsAt w' s xs :=
  ⟨h.len, h.nil, h.cap, fun i hi => by
    obtain ⟨b, off, e, hc⟩ := h.cell i hi
    exact ⟨b, off, e, hk _ _ _ hc⟩⟩

theorem EpsAt.keeps {w w' : World} {s : SV} {es : List Ep} (h : EpsAt w s es) (hk : Keeps w w') : EpsAt w' s es :=
  ⟨h.len, h.nil, h.cap, fun i hi => by
    obtain ⟨b, off, e, hc, hd⟩ := h.cell i hi
    exact ⟨b, off, e, hk _ _ _ hc, hk _ _ _ hd⟩, fun e he => (h.body e he).keeps hk⟩

theorem Ob.At.keeps {w w' : World} {x : Ob} (h : x.At w) (hk : Keeps w w') : x.At w' := ⟨h.q, h.b.keeps hk, h.o.keeps hk, h.e.keeps hk, h.r.keeps hk, h.de.keeps hk⟩

theorem Ob.Fine.keeps {w w' : World} {B : Nat} {x : Ob} (h : x.Fine w B) (hk : Keeps w w') : x.Fine w' B := ⟨h.at'.keeps hk, h.small, h.b, h.o, h.e, h.r, h.de, h.eb⟩

theorem NineAt.keeps {w w' : World} {b off : Nat} {x : Ob} (h : NineAt w b off x) (hk : Keeps w w') : NineAt w' b off x :=
  ⟨hk _ _ _ h.c0, hk _ _ _ h.c1, hk _ _ _ h.c2, hk _ _ _ h.c3, hk _ _ _ h.c4, hk _ _ _ h.c5, hk _ _ _ h.c6, hk _ _ _ h.c7, hk _ _ _ h.c8⟩

theorem ObsAt.keeps {w w' : World} {s : SV} {L : List Ob} (h : ObsAt w s L) (hk : Keeps w w') : ObsAt w' s L :=
  ⟨h.len, h.nil, h.cap, fun i hi => by
    obtain ⟨b, off, e, hc⟩ := h.cell i hi
    exact ⟨b, off, e, hc.keeps hk⟩, fun x hx => (h.at' x hx).keeps hk⟩

def Ob.pl (x : Ob) : Pl := ⟨x.p, x.q, x.n⟩
def Ob.co (x : Ob) (m : Option Nat) : Co := ⟨x.b, x.o, m, x.r, x.d, x.de⟩

theorem Ob.Fine.ok {w : World} {B : Nat} {x : Ob} (h : x.Fine w B) : x.pl.Ok :=
  ⟨by have := h.small.p; unfold maxLen; show x.p.size ≤ _; omega, by have := h.small.n; unfold maxLen; show x.n.size ≤ _; omega, h.at'.q⟩

/-- the endpoints' map as it was laid: none for nil; b is the State's own block -/
def EndMap (w : World) (b : Nat) (m : Option Nat) (x : Ob) : Prop := (m = none ∧ x.e.a = none ∧ x.es = []) ∨ ∃ bm LM, m = some bm ∧ x.e.a.isNone = false ∧ bm ≠ b ∧ MapIs Try.prog w 9 bm LM ∧ LastMap x.es LM

theorem EndMap.below {w w' : World} {b : Nat} {m : Option Nat} {x : Ob} (h : EndMap w b m x) (hb : Below w.heap.size w w') : EndMap w' b m x :=
  or_turn h id fun ⟨bm, LM, h1, h2, h3, h4, h5⟩ => ⟨bm, LM, h1, h2, h3, h4.below hb, h5⟩

theorem EndMap.kept {w w' : World} {b : Nat} {m : Option Nat} {x : Ob} (h : EndMap w b m x) (hg : w.grownBy w' (some b)) : EndMap w' b m x :=
  or_turn h id fun ⟨bm, LM, h1, h2, h3, h4, h5⟩ => ⟨bm, LM, h1, h2, h3, h4.kept hg (by simpa using h3), h5⟩

def PPost (w : World) (b : Nat) (S : List (Pl × Co)) (x : Ob) (e : Ending) (w' : World) : Prop := e = .returned (.tuple #[]) ∧ ∃ m, StateIs w' b (S ++ [(x.pl, x.co m)]) ∧ EndMap w' b m x ∧ w.grownBy w' (some b)

theorem grown_of {w wr w' : World} {b : Nat} (hb : Below w.heap.size w wr) (hg : wr.grownBy w' (some b)) : w.grownBy w' (some b) :=
  ⟨hg.os.trans hb.os, hg.tape.trans hb.tape, hg.output.trans hb.output, Nat.le_trans hb.size hg.size, fun i hi hne => (hg.block i (Nat.lt_of_lt_of_le hi hb.size) hne).trans (hb.block i hi)⟩

set_option maxRecDepth 100000 in
set_option maxHeartbeats 4000000 in
theorem putObj (b B : Nat) (x : Ob) (S : List (Pl × Co)) (w : World) (h : StateIs w b S) (hx : x.Fine w B) (hm : x.pl ∉ S.map (·.1)) :
    Calls Try.prog 23 #[.map (some b), .agg #[.string x.p, .int .i64 x.q, .string x.n, .slice x.b.a x.b.l x.b.c, .slice x.o.a x.o.l x.o.c, .slice x.e.a x.e.l x.e.c, .slice x.r.a x.r.l x.r.c, .bool x.d, .slice x.de.a x.de.l x.de.c]] w (PPost w b S x) := by
  have heq := fun w => Lib.run_eql_slice_nil (P := Try.prog) w 32 50 x.e.a x.e.l x.e.c 0 0 Try.underlying32
  have HX : Hid (BoxAt _ _ _ ∧ Below _ _ _) := ⟨boxed w x, below_alloc w (.cells #[.string x.p, .int .i64 x.q, .string x.n, .slice x.b.a x.b.l x.b.c, .slice x.o.a x.o.l x.o.c, .slice x.e.a x.e.l x.e.c, .slice x.r.a x.r.l x.r.c, .bool x.d, .slice x.de.a x.de.l x.de.c] 35)⟩
  have H : Hid (StateIs w b S ∧ x.Fine w B ∧ x.pl ∉ S.map (·.1)) := ⟨h, hx, hm⟩
  clear h hx hm
  go_enter Try.func23, Try.ntmps23
  go_upto_region 1 with fail
  generalize hW : w.alloc _ = W1 at *
  clear hW
  have H1 : Hid (StateIs W1 b S ∧ x.Fine W1 B) := ⟨MapIs.below H.out.1 HX.out.2, H.out.2.1.below HX.out.2⟩
  obtain ⟨d0, d1, d2, d3, d4, d5, d6, d7, d8⟩ := HX.out.1
  have hBq : w.heap.size < W1.heap.size := HX.out.1.lt
  have hbl : b < W1.heap.size := H1.out.1.lt
  have n5 := H1.out.2.small.e
  cases hea : x.e.a with
  | none =>
    rw [hea] at d5
    simp only [hea] at heq
    go_wp2_with fail
    refine (put_new b x.pl (x.co none) S W1 H1.out.1 H1.out.2.ok H.out.2.2).mono ?_
    rintro e w2 ⟨rfl, hst, hg, hsz⟩
    go_wp2
    first | go_end0 | refine bodyPost_ret (results_none rfl _ _ _) rfl ?_
    exact ⟨rfl, none, hst, .inl ⟨rfl, hea, (H.out.2.1.at'.e.nil hea).2⟩, grown_of HX.out.2 hg⟩
  | some ae =>
    rw [hea, H1.out.2.at'.e.len] at d5
    simp only [hea, H1.out.2.at'.e.len] at heq
    go_wp2_with fail
    refine (newEndpoints W1).mono ?_
    rintro e w2 ⟨rfl, rfl⟩
    have HM : Hid (MapIs Try.prog (W1.alloc (.map #[] 0)) 9 W1.heap.size [] ∧ Below W1.heap.size W1 (W1.alloc (.map #[] 0))) := ⟨MapIs.made Try.prog W1 9, below_alloc _ _⟩
    go_wp2_with fail
    go_loopw [5] (fun i wr => ∃ (j : Nat) (LM : List (Value × Value)), j ≤ x.es.length ∧ i = .int .i64 j ∧ MapIs Try.prog wr 9 W1.heap.size LM ∧ LastMap (x.es.take j) LM ∧ Below W1.heap.size W1 wr) (fun i _ => x.es.length - (intOf i).toNat)
    case atStart => exact ⟨0, [], Nat.zero_le _, rfl, HM.out.1, by rw [List.take_zero]; exact lastMap_nil, HM.out.2⟩
    case round =>
      obtain ⟨j, LM, hj, rfl, hmap, hlast, hbw⟩ := hrel
      have k5 := (hbw.cell (p := ⟨w.heap.size, 5, none⟩) hBq).trans d5
      by_cases hjlt : j < x.es.length
      · obtain ⟨b2, off2, ha2, e0, e1⟩ := H1.out.2.at'.e.cell j hjlt
        rw [hea] at ha2
        cases ha2
        have hb2lt : b2 < W1.heap.size := World.block_lt_of_cell? W1 _ e0
        have k0 := (hbw.cell (p := ⟨b2, off2 + j * 2, none⟩) hb2lt).trans e0
        have k1 := (hbw.cell (p := ⟨b2, off2 + j * 2 + 1, none⟩) hb2lt).trans e1
        have hkey : keyOf Try.prog 9 (.string x.es[j].n) = some (.string x.es[j].n.data.toList) := key_str (by have := (H1.out.2.small.en _ (List.getElem_mem hjlt)).1; unfold maxLen; omega)
        have htk : x.es.take (j + 1) = x.es.take j ++ [x.es[j]] := List.take_succ_eq_append_getElem hjlt
        have hmapD : MapIs Try.prog wr.drew 9 W1.heap.size LM := hmap.below (Below.refl _ _).drew
        obtain ⟨w', LM', hrun, his, hg, hsz, hmem⟩ := MapIs.store (val := .slice x.es[j].b.a x.es[j].b.l x.es[j].b.c) hmapD keyed9 Try.underlying36 hkey
        have hkp : Keeps wr.drew w' := Keeps.of_grown hg (MapIs.no_cell hmapD)
        have G : Hid (MapIs Try.prog w' 9 W1.heap.size LM' ∧ LastMap (x.es.take (j + 1)) LM' ∧ Below W1.heap.size W1 w') :=
          ⟨his, by rw [htk]; exact hlast.over hmem, hbw.drew.grown hg hbw.drew.size (fun k e => by cases e; exact Nat.le_refl _)⟩
        have q5 := hkp _ _ _ (show wr.drew.cell? _ = _ from k5)
        have q0 := hkp _ _ _ (show wr.drew.cell? _ = _ from k0)
        have q1 := hkp _ _ _ (show wr.drew.cell? _ = _ from k1)
        have r5 : wr.drew.cell? _ = _ := k5
        have r0 : wr.drew.cell? _ = _ := k0
        have r1 : wr.drew.cell? _ = _ := k1
        have hz1 : (0 : Int) ≤ (j : Int) := by omega
        have hz2 : (j : Int) < (x.es.length : Int) := by omega
        generalize x.es[j] = y at *
        clear his hg hsz hmem hkp hmapD hmap hlast hbw hkey htk e0 e1
        go_wp2_with fail
        go_region_held2 (fun w' => w'.cell? ⟨w.heap.size, 5, none⟩ = some (.slice (some ⟨b2, off2, none⟩) x.es.length x.e.c) ∧ w'.cell? ⟨b2, off2 + j * 2, none⟩ = some (.string y.n) ∧ w'.cell? ⟨b2, off2 + j * 2 + 1, none⟩ = some (.slice y.b.a y.b.l y.b.c))
          (first | with_reducible exact ⟨r5, r0, r1⟩ | with_reducible exact ⟨q5, q0, q1⟩)
          (fail)
        go_wp2
        go_roundw
        case rel => exact ⟨j + 1, LM', by omega, by go_num, G.out⟩
        case measure => simp [intOf]; omega
      · have hall : x.es.take j = x.es := List.take_of_length_le (by omega)
        rw [hall] at hlast
        have G : Hid (MapIs Try.prog wr 9 W1.heap.size LM ∧ LastMap x.es LM ∧ Below W1.heap.size W1 wr ∧ StateIs wr b S ∧ x.Fine wr B) := ⟨hmap, hlast, hbw, MapIs.below H1.out.1 hbw, H1.out.2.below hbw⟩
        have k0 := (hbw.cell (p := ⟨w.heap.size, 0, none⟩) hBq).trans d0
        have k1 := (hbw.cell (p := ⟨w.heap.size, 1, none⟩) hBq).trans d1
        have k2 := (hbw.cell (p := ⟨w.heap.size, 2, none⟩) hBq).trans d2
        have k3 := (hbw.cell (p := ⟨w.heap.size, 3, none⟩) hBq).trans d3
        have k4 := (hbw.cell (p := ⟨w.heap.size, 4, none⟩) hBq).trans d4
        have k6 := (hbw.cell (p := ⟨w.heap.size, 6, none⟩) hBq).trans d6
        have k7 := (hbw.cell (p := ⟨w.heap.size, 7, none⟩) hBq).trans d7
        have k8 := (hbw.cell (p := ⟨w.heap.size, 8, none⟩) hBq).trans d8
        clear hmap hlast hbw
        go_wp2_with fail
        refine (put_new b x.pl (x.co (some W1.heap.size)) S wr G.out.2.2.2.1 G.out.2.2.2.2.ok H.out.2.2).mono ?_
        rintro e w2 ⟨rfl, hst, hg, hsz⟩
        go_wp2
        first | go_end0 | refine bodyPost_ret (results_none rfl _ _ _) rfl ?_
        exact ⟨rfl, some W1.heap.size, hst, .inr ⟨_, LM, rfl, by rw [hea]; rfl, by omega, G.out.1.kept hg (by simp; omega), G.out.2.1⟩, grown_of (HX.out.2.trans (G.out.2.2.1.mono HX.out.2.size)) hg⟩
end Go.Proofs.Qxb6632526a
