/- State.Doubted -/
import Derived.Test.Qxb6632526aNames
import Derived.Deep.RegionWith
import Derived.Deep.DrawnRows
import Derived.Deep.DeepCutAuto
import Derived.Deep.Onto
import Derived.Maps.Own
namespace Go.Proofs.Qxb6632526a
open Go.RowKit Go.Sort Go.Lib
attribute [local go_sem] Go.wp_at_zero Go.wp_at_succ

theorem appendSeq (base : Nat) (v0 : SV) (ss0 : List ByteArray) (Bm : Nat) (m : Option Nat) (ks : List ByteArray) (w : World) (hbase : base ≤ w.heap.size)
    (hrow0 : w.ownsRow base 9 1 (.slice v0.a v0.l v0.c) ss0.length (ss0.map Value.string)) (hBm : Bm < w.heap.size) (hm : w.cell? ⟨Bm, 0, none⟩ = some (.map m)) (hk : KeysAre w m ks) (hN : ss0.length + ks.length ≤ 4194304) :
    Calls Try.prog 24 #[.slice v0.a v0.l v0.c, .func (.func 31) #[] #[.pointer (some ⟨Bm, 0, none⟩)]] w fun e W' => ∃ (v : SV) (ss : List ByteArray), e = .returned (.slice v.a v.l v.c) ∧ ss.Perm ks ∧ W'.ownsRow base 9 1 (.slice v.a v.l v.c) (ss0.length + ss.length) ((ss0 ++ ss).map Value.string) ∧ Below base w W' := by
  refine ((callsIn_wide (n := 5)).1 (appendSeq_in 5 (by omega) base v0.a v0.l v0.c ss0 Bm m ks w hbase hrow0 hBm hm hk hN)).mono ?_
  rintro e W' ⟨v, ss, rfl, hp, ho, hb⟩
  have : ∃ u : SV, v = .slice u.a u.l u.c := by
    rcases ho.2 with ⟨rfl, _⟩ | ⟨g, cap, cur, rfl, _⟩
    · exact ⟨.nil, rfl⟩
    · exact ⟨⟨_, _, _⟩, rfl⟩
  obtain ⟨u, rfl⟩ := this
  exact ⟨u, ss, rfl, hp, ho, hb⟩

/-- from what is owned to what is read -/
theorem strs_own {w : World} {base : Nat} {u : SV} {ts : List Txt} (h : w.ownsRow base 9 1 (.slice u.a u.l u.c) ts.length (ts.map encStr)) : ∃ ss : List ByteArray, StrsAt w u ss ∧ ss.map txt = ts := by
  obtain ⟨a, l, c⟩ := u
  refine ⟨ts.map fun t => ⟨t.toArray⟩, ?_, ?_⟩
  · rcases h.2 with ⟨hv, h0⟩ | ⟨g, cap, cur, hv, hbase, hblk, h1, h2, h3, h4⟩
    · simp at hv
      obtain ⟨rfl, rfl, rfl⟩ := hv
      have : ts = [] := List.length_eq_zero_iff.1 h0
      subst this
      exact ⟨rfl, fun _ => ⟨rfl, rfl⟩, Nat.le_refl _, fun i hi => by simp at hi⟩
    · simp at hv
      obtain ⟨rfl, rfl, rfl⟩ := hv
      have h1' : ts.length ≤ c := by omega
      refine ⟨by simp, fun e => (by cases e), h1', fun i hi => ⟨g, 0, rfl, ?_⟩⟩
      have hi' : i < ts.length := by simpa using hi
      rw [Nat.zero_add, World.ownsRow.cellAt h i (by rw [Nat.mul_one]; exact hi')]
      simp [hi', encStr]
  · rw [List.map_map]
    exact (List.map_congr_left (fun t _ => by simp [txt])).trans (List.map_id ts)

theorem run_makeMap26 (v : Int) (w : World) : (Instr.makeMap 26 (some (.int .i64 v))).run Try.prog w = .ok (.map (some w.heap.size)) (w.alloc (.map #[] 0)) := by
  rfl

theorem MapIs.len {P : Program} {w : World} {k : TypeId} {b : Nat} {L : List (Value × Value)} {t e : TypeId} (h : MapIs P w k b L) (ht : P.underlying t = some (.map k e)) (ty : TypeId) : (Builtin.len_ #[t] ty #[.map (some b)]).run P w = .ok (.int .i64 L.length) w := by
  obtain ⟨es, clock, hb, _, _, rfl⟩ := h
  simp [Builtin.len_, run_underlying ht, MapKept.run_getObj_map hb, goInt, Result.andThen]

/-- what Doubted makes of an object -/
def Co.doubt (c : Co) (v : SV) : Co := { c with d := true, de := v }

theorem RangeAt.perm {P : Program} {w : World} {k : TypeId} {b r : Nat} {L todo todo' : List (Value × Value)} (h : RangeAt P w k b r L todo) (hp : todo.Perm todo') : RangeAt P w k b r L todo' := by
  obtain ⟨es, clock, since, seen, c0, hb, h1, h2, h3, hr, h4, h5, h6, h7⟩ := h
  exact ⟨es, clock, since, seen, c0, hb, h1, h2, h3, hr, h4, h5, h6, h7.trans hp⟩

theorem perm_split {α β : Type} (f : α → β) {T : List α} {p : β} {todo' : List β} (h : (T.map f).Perm (p :: todo')) : ∃ q T', p = f q ∧ T.Perm (q :: T') ∧ todo'.Perm (T'.map f) := by
  have hm : p ∈ T.map f := h.mem_iff.2 (by simp)
  obtain ⟨q, hq, rfl⟩ := List.mem_map.1 hm
  obtain ⟨s, t, rfl⟩ := List.append_of_mem hq
  refine ⟨q, s ++ t, rfl, List.perm_middle, ?_⟩
  have h1 : ((s ++ q :: t).map f).Perm (f q :: (s ++ t).map f) := by
    rw [← List.map_cons]
    exact List.perm_middle.map f
  exact ((h1.symm.trans h).cons_inv).symm

def sv (p : Pl × Co) : Value × Value := (p.1.val, p.2.val)

/-- what the loop of Doubted holds -/
structure DInv (w : World) (b bd r : Nat) (S : List (Pl × Co)) (D K : Pl × Co → List ByteArray) (wr : World) (T S' : List (Pl × Co)) : Prop where
  rng : RangeAt Try.prog wr 59 b r (S.map sv) (T.map sv)
  st : StateIs wr bd S'
  bel : Below w.heap.size w wr
  len : T.length + S'.length = S.length
  sub : ∀ p ∈ T, p ∈ S
  fresh : ∀ p ∈ T, p.1 ∉ S'.map (·.1)
  nodup : (T.map (·.1)).Nodup
  done : ∀ p ∈ S, p ∈ T ∨ ∃ (v : SV) (ts : List ByteArray), (p.1, p.2.doubt v) ∈ S' ∧ StrsAt wr v ts ∧ ts.map txt = dd ((D p ++ K p).map txt)

theorem StateIs.nodup {w : World} {b : Nat} {S : List (Pl × Co)} (h : StateIs w b S) : (S.map (·.1)).Nodup := by
  have := MapIs.nodup h
  rw [List.map_map] at this
  rw [List.nodup_iff_pairwise_ne] at this ⊢
  rw [List.pairwise_map] at this ⊢
  exact pw_turn this fun _ _ hne e => hne (by simp [e])

/-- the two boxes of a round of Doubted -/
def boxes (w : World) (pl : Pl) (co : Co) : World := ((w.alloc (.cells #[.string pl.p, .int .i64 pl.q, .string pl.n] 59)).alloc
  (.cells #[.slice co.b.a co.b.l co.b.c, .slice co.o.a co.o.l co.o.c, .map co.e, .slice co.r.a co.r.l co.r.c, .bool true, .slice co.de.a co.de.l co.de.c] 61)).drew

theorem boxes_size (w : World) (pl : Pl) (co : Co) : (boxes w pl co).heap.size = w.heap.size + 2 := by simp [boxes]

theorem boxes_below (w : World) (pl : Pl) (co : Co) : Below w.heap.size w (boxes w pl co) :=
  (((Below.refl _ _).alloc (Nat.le_refl _) _).alloc (by simp) _).drew

theorem boxes_blk (w : World) (pl : Pl) (co : Co) : (boxes w pl co).heap[w.heap.size]? = some (.cells #[.string pl.p, .int .i64 pl.q, .string pl.n] 59) ∧ (boxes w pl co).heap[w.heap.size + 1]? = some
  (.cells #[.slice co.b.a co.b.l co.b.c, .slice co.o.a co.o.l co.o.c, .map co.e, .slice co.r.a co.r.l co.r.c, .bool true, .slice co.de.a co.de.l co.de.c] 61) := by
  constructor
  · show ((w.alloc _).alloc _).heap[w.heap.size]? = _
    rw [(MapKept.heap_alloc _ _).2 _ (by simp)]
    exact (MapKept.heap_alloc _ _).1
  · have := (MapKept.heap_alloc (w.alloc (.cells #[.string pl.p, .int .i64 pl.q, .string pl.n] 59)) (.cells #[.slice co.b.a co.b.l co.b.c, .slice co.o.a co.o.l co.o.c, .map co.e, .slice co.r.a co.r.l co.r.c, .bool true, .slice co.de.a co.de.l co.de.c] 61)).1
    rw [World.size_alloc] at this
    exact this

/-- what stands ahead of AppendSeq -/
structure Ready (w2 : World) (pl : Pl) (co : Co) (ds ks : List ByteArray) (v : SV) (Bm : Nat) (X : World) : Prop where
  size : w2.heap.size + 2 ≤ X.heap.size
  own : X.ownsRow (w2.heap.size + 2) 9 1 (.slice v.a v.l v.c) ds.length (ds.map Value.string)
  lt : Bm < X.heap.size
  cell : X.cell? ⟨Bm, 0, none⟩ = some (.map co.e)
  keys : KeysAre X co.e ks
  bel : Below (w2.heap.size + 2) (boxes w2 pl co) X

/-- after the clone, where it came first -/
structure Half (w2 : World) (pl : Pl) (co : Co) (ds ks : List ByteArray) (v : SV) (X : World) : Prop where
  own : X.ownsRow (w2.heap.size + 2) 9 1 (.slice v.a v.l v.c) ds.length (ds.map Value.string)
  bel : Below (w2.heap.size + 2) (boxes w2 pl co) X
  keys : KeysAre X co.e ks

theorem half_of {w2 : World} {pl : Pl} {co : Co} {ds ks : List ByteArray} {v : SV} {X : World} (hk : KeysAre (boxes w2 pl co) co.e ks) (ho : X.ownsRow (boxes w2 pl co).heap.size 9 1 (.slice v.a v.l v.c) ds.length (ds.map Value.string))
    (hb : Below (boxes w2 pl co).heap.size (boxes w2 pl co) X) : Half w2 pl co ds ks v X :=
  ⟨ho.mono (by rw [boxes_size]; exact Nat.le_refl _), hb.mono (by rw [boxes_size]; exact Nat.le_refl _), hk.below hb⟩

theorem Half.cell {w2 : World} {pl : Pl} {co : Co} {ds ks : List ByteArray} {v : SV} {X : World} (h : Half w2 pl co ds ks v X) : X.cell? ⟨w2.heap.size + 1, 2, none⟩ = some (.map co.e) := by
  rw [h.bel.cell (p := ⟨w2.heap.size + 1, 2, none⟩) (by simp), World.cell?]
  simp [(boxes_blk w2 pl co).2]

theorem Half.ready {w2 : World} {pl : Pl} {co : Co} {ds ks : List ByteArray} {v : SV} {X : World} (h : Half w2 pl co ds ks v X) : Ready w2 pl co ds ks v X.heap.size (X.alloc (.cells #[.map co.e] 36)) := by
  have hs := h.bel.size
  rw [boxes_size] at hs
  exact ⟨by simp; omega, h.own.alloc _, by simp, cell_one_new _ _ _ 0 _ rfl, h.keys.below ((Below.refl _ _).alloc (Nat.le_refl _) _), h.bel.alloc hs _⟩

theorem ready_of {w2 : World} {pl : Pl} {co : Co} {ds ks : List ByteArray} {v : SV} {X : World} (hk : KeysAre (boxes w2 pl co) co.e ks) (ho : X.ownsRow ((boxes w2 pl co).alloc (.cells #[.map co.e] 36)).heap.size 9 1 (.slice v.a v.l v.c) ds.length (ds.map Value.string))
    (hb : Below ((boxes w2 pl co).alloc (.cells #[.map co.e] 36)).heap.size ((boxes w2 pl co).alloc (.cells #[.map co.e] 36)) X) : Ready w2 pl co ds ks v (w2.heap.size + 2) X := by
  have hs := hb.size
  rw [World.size_alloc, boxes_size] at hs
  have hb1 : Below (boxes w2 pl co).heap.size (boxes w2 pl co) X := ((Below.refl _ _).alloc (Nat.le_refl _) _).trans (hb.mono (by simp))
  refine ⟨by omega, ho.mono (by rw [World.size_alloc, boxes_size]; omega), by omega, ?_, hk.below hb1, hb1.mono (by rw [boxes_size]; exact Nat.le_refl _)⟩
  rw [hb.cell (p := ⟨w2.heap.size + 2, 0, none⟩) (by rw [World.size_alloc, boxes_size]; simp)]
  have := cell_one_new (boxes w2 pl co) (.map co.e) 36 0 _ rfl
  rw [boxes_size] at this
  exact this

theorem StrsAt.grown {w w' : World} {s : SV} {ss : List ByteArray} {r : Nat} (h : StrsAt w s ss) (hg : w.grownBy w' (some r)) (hr : ∀ off, w.cell? ⟨r, off, none⟩ = none) : StrsAt w' s ss :=
  ⟨h.len, h.nil, h.cap, fun i hi => by
    obtain ⟨b, off, e, hc⟩ := h.cell i hi
    refine ⟨b, off, e, ?_⟩
    have hne : b ≠ r := fun e' => by rw [e', hr] at hc; cases hc
    have hlt : b < w.heap.size := World.block_lt_of_cell? w _ hc
    have hb := hg.block b hlt (by simpa using hne)
    unfold World.cell? at hc ⊢
    simp only at hc ⊢
    rw [hb]
    exact hc⟩

theorem MapIs.no_cell {P : Program} {w : World} {k : TypeId} {b : Nat} {L : List (Value × Value)} (h : MapIs P w k b L) (off : Nat) : w.cell? ⟨b, off, none⟩ = none := by
  obtain ⟨es, clock, hb, _⟩ := h
  simp [World.cell?, hb]

theorem RangeAt.no_cell {P : Program} {w : World} {k : TypeId} {b r : Nat} {L todo : List (Value × Value)} (h : RangeAt P w k b r L todo) (off : Nat) : w.cell? ⟨r, off, none⟩ = none := by
  obtain ⟨es, clock, since, seen, c0, hb, h1, h2, h3, hr, h4⟩ := h
  simp [World.cell?, hr]

theorem DInv.step {w wr w2 w4 : World} {b bd r : Nat} {S : List (Pl × Co)} {D K : Pl × Co → List ByteArray} {T T' S' : List (Pl × Co)} {pl : Pl} {co : Co} {u : SV} {ss : List ByteArray} (I : DInv w b bd r S D K wr T S')
    (hbb : b ≠ bd) (hrb : r ≠ bd) (hwr : w.heap.size ≤ r) (hwd : w.heap.size ≤ bd) (hT : T.Perm ((pl, co) :: T')) (hg2 : wr.grownBy w2 (some r)) (hrg2 : RangeAt Try.prog w2 59 b r (S.map sv) (T'.map sv))
    (hb4 : Below (w2.heap.size + 2) (boxes w2 pl co) w4) (ho4 : w4.ownsRow (w2.heap.size + 2) 9 1 (.slice u.a u.l u.c) (dd ((D (pl, co) ++ ss).map txt)).length ((dd ((D (pl, co) ++ ss).map txt)).map encStr)) (hp : ss.Perm (K (pl, co))) (hok : pl.Ok) :
    ∃ w5, (Instr.mapUpdate 26 (.map (some bd)) pl.val (co.doubt u).val).run Try.prog (w4.setCell ⟨w2.heap.size + 1, 5, none⟩ (.slice u.a u.l u.c)) = .ok () w5 ∧ DInv w b bd r S D K w5 T' (S' ++ [(pl, co.doubt u)]) := by
  have hst2 : StateIs w2 bd S' := MapIs.kept I.st hg2 (by simpa using hrb.symm)
  have hB : Below w2.heap.size w2 (w4.setCell ⟨w2.heap.size + 1, 5, none⟩ (.slice u.a u.l u.c)) :=
    ((boxes_below w2 pl co).trans (hb4.mono (by omega))).setCell (p := ⟨w2.heap.size + 1, 5, none⟩) (by simp) _
  have hst4 := MapIs.below hst2 hB
  have hrg4 := hrg2.below hB
  have ho5 := ownsRow_setCell_below ho4 (a := ⟨w2.heap.size + 1, 5, none⟩) (by simp) (.slice u.a u.l u.c)
  have hin : (pl, co) ∈ T := hT.mem_iff.2 (by simp)
  have hfr := I.fresh _ hin
  obtain ⟨l, hl⟩ := hok.key
  obtain ⟨w5, hrun, his, hgr, hsz⟩ := MapIs.store_new (val := (co.doubt u).val) hst4 keyed59 Try.underlying26 hl (not_key hfr)
  have hbel2 : Below w.heap.size w w2 := I.bel.grown hg2 I.bel.size (fun k e => by cases e; exact hwr)
  have hbel5 : Below w.heap.size w w5 := (hbel2.trans (hB.mono hbel2.size)).grown hgr (Nat.le_trans hbel2.size hB.size) (fun k e => by cases e; exact hwd)
  have hnd := (hT.map (·.1)).nodup_iff.1 I.nodup
  simp only [List.map_cons, List.nodup_cons] at hnd
  refine ⟨w5, hrun, ⟨hrg4.of_blocks (hgr.block b hrg4.map.lt (by simpa using hbb)) (hgr.block r hrg4.lt (by simpa using hrb)), ?_, hbel5, ?_, ?_, ?_, hnd.2, ?_⟩⟩
  · unfold StateIs
    rw [List.map_append]
    exact his
  · have := hT.length_eq
    have := I.len
    simp at *
    omega
  · exact fun p hp => I.sub p (hT.mem_iff.2 (List.mem_cons_of_mem _ hp))
  · intro p hp hm
    rw [List.map_append, List.mem_append] at hm
    rcases hm with hm | hm
    · exact I.fresh p (hT.mem_iff.2 (List.mem_cons_of_mem _ hp)) hm
    · simp at hm
      exact hnd.1 (List.mem_map.2 ⟨p, hp, hm⟩)
  · intro p hpS
    rcases I.done p hpS with h | ⟨v, ts, h1, h2, h3⟩
    · rcases List.mem_cons.1 (hT.mem_iff.1 h) with rfl | h
      · obtain ⟨ts, h2, h3⟩ := strs_own ho5
        refine .inr ⟨u, ts, by simp, h2.grown hgr (MapIs.no_cell hst4), ?_⟩
        rw [h3]
        refine dd_perm fun x => ?_
        simp only [List.map_append, List.mem_append]
        exact or_congr Iff.rfl (hp.map txt).mem_iff
      · exact .inl h
    · exact .inr ⟨v, ts, by simp [h1], ((h2.grown hg2 I.rng.no_cell).below hB).grown hgr (MapIs.no_cell hst4), h3⟩

set_option maxRecDepth 100000 in
set_option maxHeartbeats 2000000 in
theorem doubted (b : Nat) (S : List (Pl × Co)) (D K : Pl × Co → List ByteArray) (w : World) (h : StateIs w b S)
    (hok : ∀ p ∈ S, p.1.Ok ∧ StrsAt w p.2.de (D p) ∧ KeysAre w p.2.e (K p) ∧ (D p).length + (K p).length ≤ 4194304) :
    Calls Try.prog 9 #[.map (some b)] w fun e w' => ∃ (b' : Nat) (S' : List (Pl × Co)), e = .returned (.map (some b')) ∧ StateIs w' b' S' ∧ Below w.heap.size w w' ∧ S'.length = S.length ∧
      ∀ p ∈ S, ∃ (v : SV) (ts : List ByteArray), (p.1, p.2.doubt v) ∈ S' ∧ StrsAt w' v ts ∧ ts.map txt = dd ((D p ++ K p).map txt) := by
  have hmm := run_makeMap26
  have hlen := MapIs.len h Try.underlying26
  have hbl := h.lt
  obtain ⟨w1, hrun1, hrg1, hb1, hs1⟩ := (MapIs.alloc h (.map #[] 0)).range Try.underlying26
  have hnew : StateIs w1 w.heap.size [] := (MapIs.made Try.prog w 59).below hb1
  have hw1 : Below w.heap.size w w1 := ((Below.refl _ _).alloc (Nat.le_refl _) _).trans (hb1.mono (by simp))
  have hI : DInv w b w.heap.size (w.heap.size + 1) S D K w1 S [] := ⟨(by rw [World.size_alloc] at hrg1; exact hrg1), hnew, hw1, by simp, fun _ hp => hp, by simp, StateIs.nodup h, fun p hp => .inl hp⟩
  go_enter Try.func9, Try.ntmps9
  go_wp2
  clear hrun1 hrg1 hb1 hnew hw1 hmm hlen
  go_loopw [4] (fun _ wr => ∃ T S', DInv w b w.heap.size (w.heap.size + 1) S D K wr T S') (fun _ wr => rangeLeft wr b (w.heap.size + 1))
  case atStart => exact ⟨_, _, hI⟩
  case round =>
    obtain ⟨T, S', I⟩ := hrel
    rcases I.rng.next 0 with ⟨h0, hrun⟩ | ⟨p, todo', w2, hpm, hpL, hrun, hrg2, hg2, hs2, hen⟩
    · have hT : T = [] := by simpa using h0
      subst hT
      have H : Hid (DInv w b w.heap.size (w.heap.size + 1) S D K wr [] S') := I
      clear I h0
      go_wp2
      go_ret
      refine ⟨_, S', rfl, H.out.st, H.out.bel, by simpa using H.out.len, fun p hp => ?_⟩
      rcases H.out.done p hp with h | h
      · simp at h
      · exact h
    · obtain ⟨⟨pl, co⟩, T', rfl, hT', hp'⟩ := perm_split sv hpm
      have hin : (pl, co) ∈ S := I.sub _ (hT'.mem_iff.2 (by simp))
      obtain ⟨hplk, hde, hke, hN⟩ := hok _ hin
      have hleft := I.rng.left_eq
      have hlt : T'.length < T.length := by have := hT'.length_eq; simp at this; omega
      have hst2 : StateIs w2 w.heap.size S' := MapIs.kept I.st hg2 (by simp)
      have hrg2' := hrg2.perm hp'
      have hbel2 : Below w.heap.size w w2 := I.bel.grown hg2 I.bel.size (fun k e => by cases e; omega)
      have hde2 := hde.below hbel2
      have hke2 := hke.below hbel2
      have H : Hid (DInv w b w.heap.size (w.heap.size + 1) S D K wr T S' ∧ (pl, co) ∈ S ∧ rangeLeft wr b (w.heap.size + 1) = (T.map sv).length ∧ T'.length < T.length ∧ T.Perm ((pl, co) :: T') ∧ wr.grownBy w2 (some (w.heap.size + 1)) ∧ StateIs w2 w.heap.size S' ∧ Below w.heap.size w w2 ∧ w2.heap.size = wr.heap.size ∧
        RangeAt Try.prog w2 59 b (w.heap.size + 1) (S.map sv) (T'.map sv) ∧ pl.Ok ∧ StrsAt w2 co.de (D (pl, co)) ∧ KeysAre w2 co.e (K (pl, co)) ∧ (D (pl, co)).length + (K (pl, co)).length ≤ 4194304) :=
        ⟨I, hin, hleft, hlt, hT', hg2, hst2, hbel2, hs2, hrg2', hplk, hde2, hke2, hN⟩
      clear I hpm hpL hrg2 hp' hin hplk hde hke hleft hlt hT' hg2 hst2 hrg2' hbel2 hde2 hke2 hN hs2
      simp only [sv, Pl.val, Co.val] at hrun hen
      have G : Hid (StrsAt (boxes w2 pl co) co.de (D (pl, co)) ∧ KeysAre (boxes w2 pl co) co.e (K (pl, co)) ∧ (D (pl, co)).length ≤ 4194304 ∧ (D (pl, co)).length + (K (pl, co)).length ≤ 4194304) :=
        ⟨H.out.2.2.2.2.2.2.2.2.2.2.2.1.below (boxes_below _ _ _), H.out.2.2.2.2.2.2.2.2.2.2.2.2.1.below (boxes_below _ _ _), by have := H.out.2.2.2.2.2.2.2.2.2.2.2.2.2; omega, H.out.2.2.2.2.2.2.2.2.2.2.2.2.2⟩
      go_upto_region 6 with fail
      go_cut [6] (fun s wx => ∃ (v : SV) (ss : List ByteArray), s = .slice v.a v.l v.c ∧ ss.Perm (K (pl, co)) ∧ wx.ownsRow (w2.heap.size + 2) 9 1 (.slice v.a v.l v.c) ((D (pl, co)).length + ss.length) ((D (pl, co) ++ ss).map Value.string) ∧ Below (w2.heap.size + 2) (boxes w2 pl co) wx)
      case first =>
        go_region_with (first
          | (go_at_call 25; refine (clone_own co.de (D (pl, co)) _ (by first | exact G.out.1 | exact G.out.1.below ((Below.refl _ _).alloc (Nat.le_refl _) _)) G.out.2.2.1).mono ?_; rintro e wA ⟨v, rfl, hown, hbA⟩;
             first
             | (have A : Hid (Half w2 pl co (D (pl, co)) (K (pl, co)) v wA) := half_of G.out.2.1 hown hbA; have cA := A.out.cell; clear hown hbA)
             | (have R : Hid (Ready w2 pl co (D (pl, co)) (K (pl, co)) v (w2.heap.size + 2) wA) := ready_of G.out.2.1 hown hbA; clear hown hbA))
          | (go_at_call 26; refine (keys_call co.e _).mono ?_; rintro e wB ⟨rfl, rfl⟩; first | have R : Hid (Ready w2 pl co (D (pl, co)) (K (pl, co)) v wA.heap.size (wA.alloc (.cells #[.map co.e] 36))) := A.out.ready | skip)
          | (go_at_call 24; refine (appendSeq (w2.heap.size + 2) v (D (pl, co)) _ co.e (K (pl, co)) _ R.out.size R.out.own R.out.lt R.out.cell R.out.keys G.out.2.2.2).mono ?_; rintro e wC ⟨u, ss, rfl, hp, ho, hb⟩;
             have F : Hid (ss.Perm (K (pl, co)) ∧ wC.ownsRow (w2.heap.size + 2) 9 1 (.slice u.a u.l u.c) ((D (pl, co)).length + ss.length) ((D (pl, co) ++ ss).map Value.string) ∧ Below (w2.heap.size + 2) (boxes w2 pl co) wC) := ⟨hp, ho, R.out.bel.trans hb⟩; clear hp ho hb))
        all_goals
          go_wp2_with fail
          go_meet
          exact ⟨u, ss, rfl, F.out⟩
      case rest =>
        obtain ⟨v, ss, rfl, hp, ho, hb⟩ := hcut
        have hsz := hb.size
        rw [boxes_size] at hsz
        have hN1 : ((D (pl, co) ++ ss).map txt).length ≤ 4194304 := by
          have := hp.length_eq
          have := G.out.2.2.2
          simp
          omega
        have ho1 : wc.ownsRow (w2.heap.size + 2) 9 1 (.slice v.a v.l v.c) ((D (pl, co) ++ ss).map txt).length (((D (pl, co) ++ ss).map txt).map encStr) := by
          rw [map_encStr, List.length_map, List.length_append]
          exact ho
        have F : Hid (ss.Perm (K (pl, co)) ∧ Below (w2.heap.size + 2) (boxes w2 pl co) wc ∧ wc.ownsRow (w2.heap.size + 2) 9 1 (.slice v.a v.l v.c) ((D (pl, co) ++ ss).map txt).length (((D (pl, co) ++ ss).map txt).map encStr) ∧ w2.heap.size + 2 ≤ wc.heap.size ∧ ((D (pl, co) ++ ss).map txt).length ≤ 4194304) := ⟨hp, hb, ho1, hsz, hN1⟩
        clear hp hb ho1 ho hsz hN1 hrun hen
        go_wp2_with fail
        refine (sort_own (w2.heap.size + 2) v ((D (pl, co) ++ ss).map txt) wc F.out.2.2.1 F.out.2.2.2.1 F.out.2.2.2.2).mono ?_
        rintro e w3 ⟨rfl, ho3, hb3⟩
        have F3 : Hid (Below (w2.heap.size + 2) (boxes w2 pl co) w3 ∧ w3.ownsRow (w2.heap.size + 2) 9 1 (.slice v.a v.l v.c) (srt ((D (pl, co) ++ ss).map txt)).length ((srt ((D (pl, co) ++ ss).map txt)).map encStr) ∧ w2.heap.size + 2 ≤ w3.heap.size ∧ (srt ((D (pl, co) ++ ss).map txt)).length ≤ 4194304) :=
          ⟨F.out.2.1.trans hb3, ho3, Nat.le_trans F.out.2.2.2.1 hb3.size, by rw [(srt_perm _).length_eq]; exact F.out.2.2.2.2⟩
        clear ho3 hb3
        go_wp2_with fail
        refine (compact_own (w2.heap.size + 2) v (srt ((D (pl, co) ++ ss).map txt)) w3 F3.out.2.1 F3.out.2.2.1 F3.out.2.2.2).mono ?_
        rintro e w4 ⟨u, rfl, ho4, hb4⟩
        have F4 : Hid (Below (w2.heap.size + 2) (boxes w2 pl co) w4 ∧ w4.ownsRow (w2.heap.size + 2) 9 1 (.slice u.a u.l u.c) (dd ((D (pl, co) ++ ss).map txt)).length ((dd ((D (pl, co) ++ ss).map txt)).map encStr) ∧ w2.heap.size + 2 ≤ w4.heap.size) :=
          ⟨F3.out.1.trans hb4, ho4, Nat.le_trans F3.out.2.2.1 hb4.size⟩
        clear ho4 hb4
        have hk4 : w4.heap[w2.heap.size]? = some (.cells #[.string pl.p, .int .i64 pl.q, .string pl.n] 59) := (F4.out.1.block _ (by omega)).trans (boxes_blk w2 pl co).1
        have hk5 : w4.heap[w2.heap.size + 1]? = some (.cells #[.slice co.b.a co.b.l co.b.c, .slice co.o.a co.o.l co.o.c, .map co.e, .slice co.r.a co.r.l co.r.c, .bool true, .slice co.de.a co.de.l co.de.c] 61) := (F4.out.1.block _ (by omega)).trans (boxes_blk w2 pl co).2
        have g0 : w4.cell? ⟨w2.heap.size, 0, none⟩ = some (.string pl.p) := by simp [World.cell?, hk4]
        have g1 : w4.cell? ⟨w2.heap.size, 1, none⟩ = some (.int .i64 pl.q) := by simp [World.cell?, hk4]
        have g2 : w4.cell? ⟨w2.heap.size, 2, none⟩ = some (.string pl.n) := by simp [World.cell?, hk4]
        have c0 : w4.cell? ⟨w2.heap.size + 1, 0, none⟩ = some (.slice co.b.a co.b.l co.b.c) := by simp [World.cell?, hk5]
        have c1 : w4.cell? ⟨w2.heap.size + 1, 1, none⟩ = some (.slice co.o.a co.o.l co.o.c) := by simp [World.cell?, hk5]
        have c2 : w4.cell? ⟨w2.heap.size + 1, 2, none⟩ = some (.map co.e) := by simp [World.cell?, hk5]
        have c3 : w4.cell? ⟨w2.heap.size + 1, 3, none⟩ = some (.slice co.r.a co.r.l co.r.c) := by simp [World.cell?, hk5]
        have c4 : w4.cell? ⟨w2.heap.size + 1, 4, none⟩ = some (.bool true) := by simp [World.cell?, hk5]
        have c5 : w4.cell? ⟨w2.heap.size + 1, 5, none⟩ = some (.slice co.de.a co.de.l co.de.c) := by simp [World.cell?, hk5]
        have f5 : w4.frozen? ⟨w2.heap.size + 1, 5, none⟩ = false := by simp [World.frozen?, hk5]
        obtain ⟨w5, hrun5, hI5⟩ := H.out.1.step (by omega) (by omega) (by omega) (Nat.le_refl _) H.out.2.2.2.2.1 H.out.2.2.2.2.2.1 H.out.2.2.2.2.2.2.2.2.2.1 F4.out.1 F4.out.2.1 F.out.1 H.out.2.2.2.2.2.2.2.2.2.2.1
        have HI : Hid (DInv w b w.heap.size (w.heap.size + 1) S D K w5 T' (S' ++ [(pl, co.doubt u)])) := hI5
        unfold Pl.val Co.val Co.doubt at hrun5
        clear hk4 hk5 hI5
        go_wp2
        go_roundw
        case rel => exact ⟨_, _, HI.out⟩
        case measure =>
          rw [HI.out.rng.left_eq, H.out.2.2.1]
          have := H.out.2.2.2.1
          simpa using this
end Go.Proofs.Qxb6632526a
