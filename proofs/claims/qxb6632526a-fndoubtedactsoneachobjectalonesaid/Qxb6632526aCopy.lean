/- planCopyObjs -/
import Derived.Test.Qxb6632526aRow
import Derived.Deep.DeepCutAuto
import Derived.Deep.RegionHeld2
import Derived.Deep.RegionWith
import Derived.WalkSpells
import Derived.Laws.MakeOwn
namespace Go.Proofs.Qxb6632526a
open Go.RowKit

def z35 : Value := .agg #[.string ⟨#[]⟩, .int .i64 0, .string ⟨#[]⟩, .slice none 0 0, .slice none 0 0, .slice none 0 0, .slice none 0 0, .bool false, .slice none 0 0]
theorem Try.info35 : (Try.prog.info? 35).map (fun i => (i.zero, i.size, i.bytes)) = some (some z35, 9, 168) := by kernel_rfl
def z50 : Value := .agg #[.string ⟨#[]⟩, .slice none 0 0]
theorem Try.info50 : (Try.prog.info? 50).map (fun i => (i.zero, i.size, i.bytes)) = some (some z50, 2, 40) := by kernel_rfl

theorem make_rows {P : Program} (t e : TypeId) (z : Value) (size bytes : Nat) (ht : P.underlying t = some (.slice e)) (hinfo : (P.info? e).map (fun i => (i.zero, i.size, i.bytes)) = some (some z, size, bytes)) (n : Nat) (hb : bytes * n ≤ 281474976710656) (hn : n ≤ 1048576) (w : World) :
    (Instr.makeSlice t (.int .i64 (n : Int)) (.int .i64 (n : Int))).run P w = .ok (.slice (some ⟨w.heap.size, 0, none⟩) n n) (w.alloc (.cells (madeCells z.cells (n * size)) e)) := by
  obtain ⟨i, hi, hzz⟩ := Option.map_eq_some_iff.1 hinfo
  simp only [Prod.mk.injEq] at hzz
  obtain ⟨hz, hs, hbb⟩ := hzz
  have hb' : (i.bytes : Int) * (n : Int) ≤ 281474976710656 := by
    have h : ((i.bytes * n : Nat) : Int) ≤ 281474976710656 := by rw [hbb]; omega
    rwa [Int.natCast_mul] at h
  have hr := run_make (P := P) w t e i z ht hi hz .i64 .i64 n n (by omega) (Int.le_refl _) hb' (by omega)
  simp only [Int.toNat_natCast, hs] at hr
  exact hr

/-- the endpoints laid so far -/
structure EpsPre (w : World) (B : Nat) (es : List Ep) : Prop where
  cell : ∀ i, (h : i < es.length) → w.cell? ⟨B, i * 2, none⟩ = some (.string es[i].n) ∧ w.cell? ⟨B, i * 2 + 1, none⟩ = some (.slice es[i].b.a es[i].b.l es[i].b.c)
  body : ∀ e ∈ es, BytesAt w e.b e.xs
  small : ∀ e ∈ es, e.n.size ≤ 1048576 ∧ e.xs.length ≤ 1048576
  new : ∀ e ∈ es, e.b.newAt (B + 1)

def EpLoop (W : World) (B m : Nat) (i : Value) (wr : World) : Prop := ∃ es : List Ep, es.length ≤ m ∧ i = .int .i64 (es.length : Nat) ∧ Row wr B (m * 2) ∧ Below W.heap.size W wr ∧ EpsPre wr B es

theorem ep_step {W wr wA : World} {B m : Nat} {es : List Ep} {n : ByteArray} {xs : List Int} {v : SV} (hWB : W.heap.size ≤ B) (hr : Row wr B (m * 2)) (hb : Below W.heap.size W wr) (pre : EpsPre wr B es) (hA : Below wr.heap.size wr wA) (hv : BytesAt wA v xs) (hn : v.newAt wr.heap.size)
    (h1 : n.size ≤ 1048576) (h2 : xs.length ≤ 1048576) (hlt : es.length < m) :
    EpLoop W B m (.int .i64 ((es.length + 1 : Nat) : Int)) ((wA.setCell ⟨B, es.length * 2, none⟩ (.string n)).setCell ⟨B, es.length * 2 + 1, none⟩ (.slice v.a v.l v.c)) := by
  have hrA := hr.below hA
  have hBl := hr.lt
  have hr1 := hrA.set (es.length * 2) (.string n)
  have hn' : v.newAt (B + 1) := hn.mono hBl
  refine ⟨es ++ [⟨n, v, xs⟩], by simp; omega, by simp, hr1.set _ _, ((hb.trans (hA.mono hb.size)).setCell (p := ⟨B, _, none⟩) hWB _).setCell (p := ⟨B, _, none⟩) hWB _, ?_, ?_, ?_, ?_⟩
  · intro i hi
    by_cases hie : i < es.length
    · obtain ⟨e1, e2⟩ := pre.cell i hie
      rw [List.getElem_append_left hie]
      refine ⟨?_, ?_⟩
      · rw [set_near _ (by omega), set_near _ (by omega), (hA.cell (p := ⟨B, i * 2, none⟩) hBl), e1]
      · rw [set_near _ (by omega), set_near _ (by omega), (hA.cell (p := ⟨B, i * 2 + 1, none⟩) hBl), e2]
    · have hi' : i = es.length := by simp at hi; omega
      subst hi'
      rw [List.getElem_append_right (Nat.le_refl _)]
      simp only [Nat.sub_self, List.getElem_cons_zero]
      refine ⟨?_, set_here _ hr1 (by omega)⟩
      rw [set_near _ (by omega)]
      exact set_here _ hrA (by omega)
  · intro e he
    rcases List.mem_append.1 he with he | he
    · exact (((pre.body e he).below hA).set (pre.new e he) _ _).set (pre.new e he) _ _
    · simp at he
      subst he
      exact (hv.set hn' _ _).set hn' _ _
  · intro e he
    rcases List.mem_append.1 he with he | he
    · exact pre.small e he
    · simp at he
      subst he
      exact ⟨h1, h2⟩
  · intro e he
    rcases List.mem_append.1 he with he | he
    · exact pre.new e he
    · simp at he
      subst he
      exact hn'

/-- a copied object: all of it can be read, is small, and lies in blocks from number B on -/
structure Ob.Fine (w : World) (B : Nat) (x : Ob) : Prop where
  at' : x.At w
  small : x.Small
  b : x.b.newAt B
  o : x.o.newAt B
  e : x.e.newAt B
  r : x.r.newAt B
  de : x.de.newAt B
  eb : ∀ y ∈ x.es, y.b.newAt B

theorem Ob.Fine.below {w w' : World} {B : Nat} {x : Ob} (h : x.Fine w B) (hb : Below w.heap.size w w') : x.Fine w' B := ⟨h.at'.below hb, h.small, h.b, h.o, h.e, h.r, h.de, h.eb⟩

theorem Ob.Fine.set {w : World} {B : Nat} {x : Ob} (h : x.Fine w (B + 1)) (i : Nat) (v : Value) : x.Fine (w.setCell ⟨B, i, none⟩ v) (B + 1) :=
  ⟨⟨h.at'.q, h.at'.b.set h.b i v, h.at'.o.set h.o i v, h.at'.e.set h.e h.eb i v, h.at'.r.set h.r i v, h.at'.de.set h.de i v⟩, h.small, h.b, h.o, h.e, h.r, h.de, h.eb⟩

def ObLoop (w : World) (B n : Nat) (i : Value) (wr : World) : Prop := ∃ L' : List Ob, L'.length ≤ n ∧ i = .int .i64 (L'.length : Nat) ∧ Row wr B (n * 9) ∧ Below w.heap.size w wr ∧ (∀ i, (h : i < L'.length) → NineAt wr B (i * 9) L'[i]) ∧ ∀ x ∈ L', x.Fine wr (B + 1)

/-- an object laid over nine cells -/
abbrev put9 (w : World) (B o : Nat) (x : Ob) : World :=
  ((((((((w.setCell ⟨B, o, none⟩ (.string x.p)).setCell ⟨B, o + 1, none⟩ (.int .i64 x.q)).setCell ⟨B, o + 2, none⟩ (.string x.n)).setCell ⟨B, o + 3, none⟩ (.slice x.b.a x.b.l x.b.c)).setCell ⟨B, o + 4, none⟩ (.slice x.o.a x.o.l x.o.c)).setCell ⟨B, o + 5, none⟩ (.slice x.e.a x.e.l x.e.c)).setCell ⟨B, o + 6, none⟩ (.slice x.r.a x.r.l x.r.c)).setCell ⟨B, o + 7, none⟩ (.bool x.d)).setCell ⟨B, o + 8, none⟩ (.slice x.de.a x.de.l x.de.c)

theorem put9_row {w : World} {B m : Nat} (h : Row w B m) (o : Nat) (x : Ob) : Row (put9 w B o x) B m :=
  ((((((((h.set _ _).set _ _).set _ _).set _ _).set _ _).set _ _).set _ _).set _ _).set _ _

theorem put9_near {w : World} {B o j : Nat} (x : Ob) (h : j < o ∨ o + 9 ≤ j) : (put9 w B o x).cell? ⟨B, j, none⟩ = w.cell? ⟨B, j, none⟩ := by
  unfold put9
  rw [set_near _ (by omega), set_near _ (by omega), set_near _ (by omega), set_near _ (by omega), set_near _ (by omega), set_near _ (by omega), set_near _ (by omega), set_near _ (by omega), set_near _ (by omega)]

theorem put9_far {w : World} {B b o j : Nat} (x : Ob) (h : B ≠ b) : (put9 w B o x).cell? ⟨b, j, none⟩ = w.cell? ⟨b, j, none⟩ := by
  unfold put9
  rw [set_far _ h, set_far _ h, set_far _ h, set_far _ h, set_far _ h, set_far _ h, set_far _ h, set_far _ h, set_far _ h]

theorem put9_nine {w : World} {B m o : Nat} (x : Ob) (h : Row w B m) (ho : o + 9 ≤ m) : NineAt (put9 w B o x) B o x := by
  have r0 := h.set o (.string x.p)
  have r1 := r0.set (o + 1) (.int .i64 x.q)
  have r2 := r1.set (o + 2) (.string x.n)
  have r3 := r2.set (o + 3) (.slice x.b.a x.b.l x.b.c)
  have r4 := r3.set (o + 4) (.slice x.o.a x.o.l x.o.c)
  have r5 := r4.set (o + 5) (.slice x.e.a x.e.l x.e.c)
  have r6 := r5.set (o + 6) (.slice x.r.a x.r.l x.r.c)
  have r7 := r6.set (o + 7) (.bool x.d)
  unfold put9
  refine ⟨?_, ?_, ?_, ?_, ?_, ?_, ?_, ?_, ?_⟩
  · rw [set_near _ (by omega), set_near _ (by omega), set_near _ (by omega), set_near _ (by omega), set_near _ (by omega), set_near _ (by omega), set_near _ (by omega), set_near _ (by omega), set_here _ h (by omega)]
  · rw [set_near _ (by omega), set_near _ (by omega), set_near _ (by omega), set_near _ (by omega), set_near _ (by omega), set_near _ (by omega), set_near _ (by omega), set_here _ r0 (by omega)]
  · rw [set_near _ (by omega), set_near _ (by omega), set_near _ (by omega), set_near _ (by omega), set_near _ (by omega), set_near _ (by omega), set_here _ r1 (by omega)]
  · rw [set_near _ (by omega), set_near _ (by omega), set_near _ (by omega), set_near _ (by omega), set_near _ (by omega), set_here _ r2 (by omega)]
  · rw [set_near _ (by omega), set_near _ (by omega), set_near _ (by omega), set_near _ (by omega), set_here _ r3 (by omega)]
  · rw [set_near _ (by omega), set_near _ (by omega), set_near _ (by omega), set_here _ r4 (by omega)]
  · rw [set_near _ (by omega), set_near _ (by omega), set_here _ r5 (by omega)]
  · rw [set_near _ (by omega), set_here _ r6 (by omega)]
  · rw [set_here _ r7 (by omega)]

theorem put9_fine {w : World} {B o : Nat} {y : Ob} (h : y.Fine w (B + 1)) (x : Ob) : y.Fine (put9 w B o x) (B + 1) :=
  ((((((((h.set _ _).set _ _).set _ _).set _ _).set _ _).set _ _).set _ _).set _ _).set _ _

theorem put9_below {w0 w : World} {B B0 o : Nat} (h : Below B0 w0 w) (hB : B0 ≤ B) (x : Ob) : Below B0 w0 (put9 w B o x) :=
  ((((((((h.setCell (p := ⟨B, _, none⟩) hB _).setCell (p := ⟨B, _, none⟩) hB _).setCell (p := ⟨B, _, none⟩) hB _).setCell (p := ⟨B, _, none⟩) hB _).setCell (p := ⟨B, _, none⟩) hB _).setCell (p := ⟨B, _, none⟩) hB _).setCell (p := ⟨B, _, none⟩) hB _).setCell (p := ⟨B, _, none⟩) hB _).setCell (p := ⟨B, _, none⟩) hB _

theorem nine_congr {w w' : World} {b o : Nat} {x : Ob} (h : NineAt w b o x) (e : ∀ j, o ≤ j → j < o + 9 → w'.cell? ⟨b, j, none⟩ = w.cell? ⟨b, j, none⟩) : NineAt w' b o x :=
  ⟨(e _ (by omega) (by omega)).trans h.c0, (e _ (by omega) (by omega)).trans h.c1, (e _ (by omega) (by omega)).trans h.c2, (e _ (by omega) (by omega)).trans h.c3, (e _ (by omega) (by omega)).trans h.c4, (e _ (by omega) (by omega)).trans h.c5, (e _ (by omega) (by omega)).trans h.c6, (e _ (by omega) (by omega)).trans h.c7, (e _ (by omega) (by omega)).trans h.c8⟩

theorem ob_step {w wc wA : World} {B n : Nat} {L' : List Ob} {x : Ob} (hwB : w.heap.size ≤ B) (hr : Row wc B (n * 9)) (hb : Below w.heap.size w wc) (hn : ∀ i, (h : i < L'.length) → NineAt wc B (i * 9) L'[i]) (hf : ∀ y ∈ L', y.Fine wc (B + 1))
    (hA : Below wc.heap.size wc wA) (hx : x.Fine wA (B + 1)) (hlt : L'.length < n) : ObLoop w B n (.int .i64 ((L'.length + 1 : Nat) : Int)) (put9 wA B (L'.length * 9) x) := by
  have hrA := hr.below hA
  refine ⟨L' ++ [x], by simp; omega, by simp, put9_row hrA _ _, put9_below (hb.trans (hA.mono hb.size)) hwB _, ?_, ?_⟩
  · intro i hi
    by_cases hie : i < L'.length
    · rw [List.getElem_append_left hie]
      exact nine_congr ((hn i hie).below hA) fun j h1 h2 => put9_near _ (by omega)
    · have hi' : i = L'.length := by simp at hi; omega
      subst hi'
      rw [List.getElem_append_right (Nat.le_refl _)]
      simp only [Nat.sub_self, List.getElem_cons_zero]
      exact put9_nine _ hrA (by omega)
  · intro y hy
    rcases List.mem_append.1 hy with h | h
    · exact put9_fine ((hf y h).below hA) _
    · simp at h
      subst h
      exact put9_fine hx _

/-- what the 'if' leaves in slot 6 -/
def EpsLeft (W : World) (x : Ob) (s : Value) (wx : World) : Prop := ∃ (v : SV) (es : List Ep), s = .slice v.a v.l v.c ∧ EpsAt wx v es ∧ Below W.heap.size W wx ∧ es.length = x.es.length ∧ (∀ e ∈ es, e.n.size ≤ 1048576 ∧ e.xs.length ≤ 1048576) ∧ v.newAt W.heap.size ∧ (∀ e ∈ es, e.b.newAt W.heap.size)

def CPost (w : World) (n : Nat) (e : Ending) (w' : World) : Prop := ∃ (v : SV) (L' : List Ob), e = .returned (.slice v.a v.l v.c) ∧ ObsAt w' v L' ∧ L'.length = n ∧ Below w.heap.size w w' ∧ v.plain ∧ ∀ x ∈ L', x.Fine w' w.heap.size

abbrev BoxS (B : Nat) (x : Ob) (w' : World) : Prop := w'.cell? ⟨B, 0, none⟩ = some (.string x.p) ∧ w'.cell? ⟨B, 1, none⟩ = some (.int .i64 x.q) ∧ w'.cell? ⟨B, 2, none⟩ = some (.string x.n) ∧ w'.cell? ⟨B, 3, none⟩ = some (.slice x.b.a x.b.l x.b.c) ∧ w'.cell? ⟨B, 4, none⟩ = some (.slice x.o.a x.o.l x.o.c) ∧ w'.cell? ⟨B, 6, none⟩ = some (.slice x.r.a x.r.l x.r.c) ∧ w'.cell? ⟨B, 7, none⟩ = some (.bool x.d) ∧ w'.cell? ⟨B, 8, none⟩ = some (.slice x.de.a x.de.l x.de.c)

theorem BoxAt.s {w : World} {B : Nat} {x : Ob} (h : BoxAt w B x) : BoxS B x w := ⟨h.c0, h.c1, h.c2, h.c3, h.c4, h.c6, h.c7, h.c8⟩

theorem BoxAt.put {w : World} {B B0 o : Nat} {x y : Ob} (h : BoxAt w B x) (hne : B0 ≠ B) : BoxS B x (put9 w B0 o y) :=
  ⟨(put9_far _ hne).trans h.c0, (put9_far _ hne).trans h.c1, (put9_far _ hne).trans h.c2, (put9_far _ hne).trans h.c3, (put9_far _ hne).trans h.c4, (put9_far _ hne).trans h.c6, (put9_far _ hne).trans h.c7, (put9_far _ hne).trans h.c8⟩

/-- the object that is laid -/
abbrev Ob.copied (x : Ob) (v1 v2 v v3 v4 : SV) (es : List Ep) : Ob := { x with b := v1, o := v2, e := v, r := v3, de := v4, es := es }

set_option maxRecDepth 100000 in
set_option maxHeartbeats 8000000 in
theorem copyObjs (s : SV) (L : List Ob) (w : World) (h : ObsAt w s L) (hL : L.length ≤ 1048576) (hS : ∀ x ∈ L, x.Small) : Calls Try.prog 7 #[.slice s.a s.l s.c] w (CPost w L.length) := by
  obtain ⟨a, l, c⟩ := s
  have hl : l = L.length := h.len
  subst hl
  simp only
  have H : Hid (ObsAt w ⟨a, L.length, c⟩ L ∧ ∀ x ∈ L, x.Small) := ⟨h, hS⟩
  cases a with
  | none =>
    obtain ⟨hc, hLn⟩ := h.nil rfl
    simp only at hc
    subst hc
    subst hLn
    have heq := fun w => Lib.run_eql_slice_nil (P := Try.prog) w 22 35 none 0 0 0 0 Try.underlying22
    go_enter Try.func7, Try.ntmps7
    go_wp2
    go_ret
    exact ⟨.nil, [], rfl, ⟨rfl, fun _ => ⟨rfl, rfl⟩, Nat.le_refl _, fun i hi => by simp at hi, fun x hx => by simp at hx⟩, rfl, Below.refl _ _, .inl rfl, fun x hx => by simp at hx⟩
  | some ad =>
  clear h hS
  have heq := fun w => Lib.run_eql_slice_nil (P := Try.prog) w 22 35 (some ad) L.length c 0 0 Try.underlying22
  have hmk := make_rows (P := Try.prog) 22 35 z35 9 168 Try.underlying22 Try.info35 L.length (by omega) hL
  go_enter Try.func7, Try.ntmps7
  go_wp2
  go_loopw [4] (fun i wr => ObLoop w w.heap.size L.length i wr) (fun i _ => L.length - (intOf i).toNat)
  case atStart => exact ⟨[], Nat.zero_le _, rfl, Row.made _ _ _ _, below_alloc _ _, fun i hi => by simp at hi, fun x hx => by simp at hx⟩
  case round =>
    obtain ⟨L', hk, rfl, hr, hb, hn, hf⟩ := hrel
    have HI : Hid (Row wr w.heap.size (L.length * 9) ∧ Below w.heap.size w wr ∧ (∀ i, (h : i < L'.length) → NineAt wr w.heap.size (i * 9) L'[i]) ∧ ∀ x ∈ L', x.Fine wr (w.heap.size + 1)) := ⟨hr, hb, hn, hf⟩
    clear hr hb hn hf heq hmk
    by_cases hlt : L'.length < L.length
    · obtain ⟨b, off, ha, N⟩ := (H.out.1.below HI.out.2.1).cell L'.length hlt
      simp only at ha
      cases ha
      have HA : Hid (L[L'.length].At wr ∧ L[L'.length].Small) := ⟨(H.out.1.below HI.out.2.1).at' _ (List.getElem_mem hlt), H.out.2 _ (List.getElem_mem hlt)⟩
      generalize L[L'.length] = x at *
      obtain ⟨c0, c1, c2, c3, c4, c5, c6, c7, c8⟩ := N
      have HX : Hid (BoxAt _ _ _ ∧ Below _ _ _) := ⟨boxed wr x, below_alloc wr (.cells #[.string x.p, .int .i64 x.q, .string x.n, .slice x.b.a x.b.l x.b.c, .slice x.o.a x.o.l x.o.c, .slice x.e.a x.e.l x.e.c, .slice x.r.a x.r.l x.r.c, .bool x.d, .slice x.de.a x.de.l x.de.c] 35)⟩
      go_upto_region 9 with fail
      generalize hW : wr.alloc _ = W1 at *
      clear hW c0 c1 c2 c3 c4 c5 c6 c7 c8
      have A1 : Hid (x.At W1 ∧ x.Small) := ⟨HA.out.1.below HX.out.2, HA.out.2⟩
      obtain ⟨d0, d1, d2, d3, d4, d5, d6, d7, d8⟩ := HX.out.1
      have hBq : wr.heap.size < W1.heap.size := HX.out.1.lt
      have HB : Hid (BoxAt W1 wr.heap.size x) := HX.out.1
      have HI1 : Hid (Row W1 w.heap.size (L.length * 9) ∧ Below w.heap.size w W1 ∧ (∀ i, (h : i < L'.length) → NineAt W1 w.heap.size (i * 9) L'[i]) ∧ ∀ x ∈ L', x.Fine W1 (w.heap.size + 1)) :=
        ⟨HI.out.1.below HX.out.2, HI.out.2.1.trans (HX.out.2.mono HI.out.2.1.size), fun i h => (HI.out.2.2.1 i h).below HX.out.2, fun y hy => (HI.out.2.2.2 y hy).below HX.out.2⟩
      have hBB : w.heap.size < wr.heap.size := HI.out.1.lt
      clear HI HA HX
      generalize wr.heap.size = Bq at *
      have n3 := A1.out.2.b
      have n4 := A1.out.2.o
      have n5 := A1.out.2.e
      have n6 := A1.out.2.r
      have n8 := A1.out.2.de
      rw [A1.out.1.e.len] at d5
      have hneq := fun w => run_neq_slice_nil_any (P := Try.prog) w 32 50 x.e.a x.es.length x.e.c 0 0 Try.underlying32
      go_upto_if 25 with fail
      clear hneq
      go_cut [6] (fun s wx => EpsLeft W1 x s wx)
      case first =>
        cases hea : x.e.a with
        | none =>
          have h0 := (A1.out.1.e.nil hea).2
          go_wp2
          go_meet
          exact ⟨.nil, [], rfl, ⟨rfl, fun _ => ⟨rfl, rfl⟩, Nat.le_refl _, fun i hi => by simp at hi, fun x hx => by simp at hx⟩, Below.refl _ _, by rw [h0], fun x hx => by simp at hx, .inl rfl, fun x hx => by simp at hx⟩
        | some ae =>
          rw [hea] at d5
          have hmk2 := make_rows (P := Try.prog) 32 50 z50 2 40 Try.underlying32 Try.info50 x.es.length (by omega) n5
          go_wp2
          clear hmk2
          go_loopw [7] (fun i wr => EpLoop W1 W1.heap.size x.es.length i wr) (fun i _ => x.es.length - (intOf i).toNat)
          case atStart => exact ⟨[], Nat.zero_le _, rfl, Row.made _ _ _ _, below_alloc _ _, fun i hi => by simp at hi, fun x hx => by simp at hx, fun x hx => by simp at hx, fun x hx => by simp at hx⟩
          case round =>
            obtain ⟨es, hk2, rfl, hr2, hb2, pre⟩ := hrel
            by_cases hjlt : es.length < x.es.length
            · obtain ⟨b2, off2, ha2, e0, e1⟩ := A1.out.1.e.cell es.length hjlt
              rw [hea] at ha2
              cases ha2
              have hb2lt : b2 < W1.heap.size := World.block_lt_of_cell? W1 _ e0
              have G : Hid (Row wr W1.heap.size (x.es.length * 2) ∧ Below W1.heap.size W1 wr ∧ EpsPre wr W1.heap.size es ∧ BytesAt wr x.es[es.length].b x.es[es.length].xs ∧ (x.es[es.length].n.size ≤ 1048576 ∧ x.es[es.length].xs.length ≤ 1048576)) :=
                ⟨hr2, hb2, pre, (A1.out.1.e.body _ (List.getElem_mem hjlt)).below hb2, A1.out.2.en _ (List.getElem_mem hjlt)⟩
              have k5 := (hb2.cell (p := ⟨Bq, 5, none⟩) hBq).trans d5
              have k0 := (hb2.cell (p := ⟨b2, off2 + es.length * 2, none⟩) hb2lt).trans e0
              have k1 := (hb2.cell (p := ⟨b2, off2 + es.length * 2 + 1, none⟩) hb2lt).trans e1
              generalize x.es[es.length] = y at *
              have hz1 : (0 : Int) ≤ (es.length : Int) := by omega
              have hz2 : (es.length : Int) < (x.es.length : Int) := by omega
              have hne5 : W1.heap.size ≠ Bq := by omega
              have hne2 : W1.heap.size ≠ b2 := by omega
              clear hr2 hb2 pre e0 e1
              go_wp2_with fail
              go_region_held2 (fun w' => w'.cell? ⟨Bq, 5, none⟩ = some (.slice (some ⟨b2, off2, none⟩) x.es.length x.e.c) ∧ w'.cell? ⟨b2, off2 + es.length * 2, none⟩ = some (.string y.n) ∧ w'.cell? ⟨b2, off2 + es.length * 2 + 1, none⟩ = some (.slice y.b.a y.b.l y.b.c))
                (first | exact ⟨k5, k0, k1⟩ | exact ⟨q5, q0, q1⟩ | exact ⟨(set_far _ hne5).trans ((set_far _ hne5).trans q5), (set_far _ hne2).trans ((set_far _ hne2).trans q0), (set_far _ hne2).trans ((set_far _ hne2).trans q1)⟩)
                (first | (go_at_call 20; refine (clone_bytes y.b y.xs _ (G.out.2.2.2.1.below (Below.refl _ _).drew) G.out.2.2.2.2.2).mono ?_; rintro e wA ⟨v, rfl, hv, hbD, _, hnew⟩;
                          have hbA : Below wr.heap.size wr wA := (Below.refl _ _).drew.trans hbD;
                          have q5 := (hbA.cell (p := ⟨Bq, 5, none⟩) (Nat.lt_of_lt_of_le hBq G.out.2.1.size)).trans k5;
                          have q0 := (hbA.cell (p := ⟨b2, off2 + es.length * 2, none⟩) (Nat.lt_of_lt_of_le hb2lt G.out.2.1.size)).trans k0;
                          have q1 := (hbA.cell (p := ⟨b2, off2 + es.length * 2 + 1, none⟩) (Nat.lt_of_lt_of_le hb2lt G.out.2.1.size)).trans k1;
                          have F : Hid (BytesAt wA v y.xs ∧ Below wr.heap.size wr wA ∧ v.newAt wr.heap.size) := ⟨hv, hbA, hnew⟩;
                          have RA := G.out.1.below F.out.2.1;
                          obtain ⟨t0, ht0⟩ := RA.cell (i := es.length * 2) (by omega);
                          obtain ⟨t1, ht1⟩ := RA.cell (i := es.length * 2 + 1) (by omega);
                          have ft0 := RA.frozen (es.length * 2);
                          have ft1 := RA.frozen (es.length * 2 + 1);
                          clear hv hbA hbD hnew RA))
              go_wp2
              go_roundw
              case rel =>
                have := ep_step (Nat.le_refl _) G.out.1 G.out.2.1 G.out.2.2.1 F.out.2.1 F.out.1 F.out.2.2 G.out.2.2.2.2.1 G.out.2.2.2.2.2 hjlt
                simpa using this
              case measure => simp [intOf]; omega
            · have hm : es.length = x.es.length := by omega
              have G : Hid (Row wr W1.heap.size (x.es.length * 2) ∧ Below W1.heap.size W1 wr ∧ EpsPre wr W1.heap.size es) := ⟨hr2, hb2, pre⟩
              have k5 := (hb2.cell (p := ⟨Bq, 5, none⟩) hBq).trans d5
              clear hr2 hb2 pre
              go_wp2
              go_meet
              exact ⟨⟨some ⟨W1.heap.size, 0, none⟩, x.es.length, x.es.length⟩, es, rfl, ⟨hm.symm, fun e => (by cases e), Nat.le_refl _, fun i hi => ⟨W1.heap.size, 0, rfl, by simpa using (G.out.2.2.cell i hi).1, by simpa using (G.out.2.2.cell i hi).2⟩, G.out.2.2.body⟩, G.out.2.1, hm, G.out.2.2.small, .inr ⟨_, rfl, Nat.le_refl _⟩, fun e he => (G.out.2.2.new e he).mono (Nat.le_succ _)⟩
      case rest =>
        obtain ⟨v, es, rfl, he, hbw, hel, hes, hvn, hen⟩ := hcut
        have G : Hid (EpsAt wc v es ∧ Below W1.heap.size W1 wc ∧ es.length = x.es.length ∧ (∀ e ∈ es, e.n.size ≤ 1048576 ∧ e.xs.length ≤ 1048576) ∧ v.newAt W1.heap.size ∧ (∀ e ∈ es, e.b.newAt W1.heap.size)) := ⟨he, hbw, hel, hes, hvn, hen⟩
        have bx := HB.out.below hbw
        have RC := HI1.out.1.below hbw
        clear he hbw hel hes hvn hen d0 d1 d2 d3 d4 d5 d6 d7 d8
        obtain ⟨d0, d1, d2, d3, d4, d5, d6, d7, d8⟩ := bx
        have hz1 : (0 : Int) ≤ (L'.length : Int) := by omega
        have hz2 : (L'.length : Int) < (L.length : Int) := by omega
        have hsz : W1.heap.size ≤ wc.heap.size := G.out.2.1.size
        have hwB : w.heap.size < W1.heap.size := HI1.out.1.lt
        have hne : w.heap.size ≠ Bq := by omega
        have BX : Hid (BoxAt wc Bq x) := HB.out.below G.out.2.1
        have BXZ : Hid (BoxAt wc.drew Bq x) := BX.out.below (Below.refl _ _).drew
        have RC' : Hid (Row wc w.heap.size (L.length * 9)) := RC
        clear RC HB
        go_wp2_with fail
        go_region_held2 (fun w' => w'.cell? ⟨Bq, 0, none⟩ = some (.string x.p) ∧ w'.cell? ⟨Bq, 1, none⟩ = some (.int .i64 x.q) ∧ w'.cell? ⟨Bq, 2, none⟩ = some (.string x.n) ∧ w'.cell? ⟨Bq, 3, none⟩ = some (.slice x.b.a x.b.l x.b.c) ∧ w'.cell? ⟨Bq, 4, none⟩ = some (.slice x.o.a x.o.l x.o.c) ∧ w'.cell? ⟨Bq, 6, none⟩ = some (.slice x.r.a x.r.l x.r.c) ∧ w'.cell? ⟨Bq, 7, none⟩ = some (.bool x.d) ∧ w'.cell? ⟨Bq, 8, none⟩ = some (.slice x.de.a x.de.l x.de.c))
          (first | with_reducible exact BXZ.out.s | with_reducible exact BXA.out.s | with_reducible exact BXB.out.s | with_reducible exact BXC.out.s | with_reducible exact BXD.out.s | with_reducible exact BXD.out.put (y := x.copied v1 v2 v v3 v4 es) hne)
          (first
            | (go_at_call_of 20 (x.b.a); refine (clone_bytes x.b x.bs _ (A1.out.1.b.below G.out.2.1.drew) n3).mono ?_; rintro e wA ⟨v1, rfl, hv, hbD, _, hnew⟩;
               have hbA : Below wc.heap.size wc wA := (Below.refl _ _).drew.trans hbD;
               have BXA : Hid (BoxAt wA Bq x) := BX.out.below hbA;
               have F1 : Hid (BytesAt wA v1 x.bs ∧ Below wc.heap.size wc wA ∧ v1.newAt wc.heap.size) := ⟨hv, hbA, hnew⟩;
               clear hv hbD hbA hnew)
            | (go_at_call_of 20 (x.o.a); refine (clone_bytes x.o x.os _ (A1.out.1.o.below (G.out.2.1.trans (F1.out.2.1.mono hsz))) n4).mono ?_; rintro e wB ⟨v2, rfl, hv, hbD, _, hnew⟩;
               have BXB : Hid (BoxAt wB Bq x) := BXA.out.below hbD;
               have F2 : Hid (BytesAt wB v2 x.os ∧ Below wA.heap.size wA wB ∧ Below wc.heap.size wc wB ∧ v2.newAt wc.heap.size) := ⟨hv, hbD, F1.out.2.1.trans (hbD.mono F1.out.2.1.size), hnew.mono F1.out.2.1.size⟩;
               clear hv hbD hnew)
            | (go_at_call_of 21 (x.r.a); refine (clone_strs x.r x.rs _ (A1.out.1.r.below (G.out.2.1.trans (F2.out.2.2.1.mono hsz))) n6).mono ?_; rintro e wC ⟨v3, rfl, hv, hbD, _, hnew⟩;
               have BXC : Hid (BoxAt wC Bq x) := BXB.out.below hbD;
               have F3 : Hid (StrsAt wC v3 x.rs ∧ Below wB.heap.size wB wC ∧ Below wc.heap.size wc wC ∧ v3.newAt wc.heap.size) := ⟨hv, hbD, F2.out.2.2.1.trans (hbD.mono F2.out.2.2.1.size), hnew.mono F2.out.2.2.1.size⟩;
               clear hv hbD hnew)
            | (go_at_call_of 21 (x.de.a); refine (clone_strs x.de x.ds _ (A1.out.1.de.below (G.out.2.1.trans (F3.out.2.2.1.mono hsz))) n8).mono ?_; rintro e wD ⟨v4, rfl, hv, hbD, _, hnew⟩;
               have BXD : Hid (BoxAt wD Bq x) := BXC.out.below hbD;
               have F4 : Hid (StrsAt wD v4 x.ds ∧ Below wC.heap.size wC wD ∧ Below wc.heap.size wc wD ∧ v4.newAt wc.heap.size) := ⟨hv, hbD, F3.out.2.2.1.trans (hbD.mono F3.out.2.2.1.size), hnew.mono F3.out.2.2.1.size⟩;
               have RD := RC'.out.below F4.out.2.2.1;
               obtain ⟨t0, ht0⟩ := RD.cell (i := L'.length * 9) (by omega);
               have ft0 := RD.frozen (L'.length * 9);
               obtain ⟨t1, ht1⟩ := RD.cell (i := L'.length * 9 + 1) (by omega);
               have ft1 := RD.frozen (L'.length * 9 + 1);
               obtain ⟨t2, ht2⟩ := RD.cell (i := L'.length * 9 + 2) (by omega);
               have ft2 := RD.frozen (L'.length * 9 + 2);
               obtain ⟨t3, ht3⟩ := RD.cell (i := L'.length * 9 + 3) (by omega);
               have ft3 := RD.frozen (L'.length * 9 + 3);
               obtain ⟨t4, ht4⟩ := RD.cell (i := L'.length * 9 + 4) (by omega);
               have ft4 := RD.frozen (L'.length * 9 + 4);
               obtain ⟨t5, ht5⟩ := RD.cell (i := L'.length * 9 + 5) (by omega);
               have ft5 := RD.frozen (L'.length * 9 + 5);
               obtain ⟨t6, ht6⟩ := RD.cell (i := L'.length * 9 + 6) (by omega);
               have ft6 := RD.frozen (L'.length * 9 + 6);
               obtain ⟨t7, ht7⟩ := RD.cell (i := L'.length * 9 + 7) (by omega);
               have ft7 := RD.frozen (L'.length * 9 + 7);
               obtain ⟨t8, ht8⟩ := RD.cell (i := L'.length * 9 + 8) (by omega);
               have ft8 := RD.frozen (L'.length * 9 + 8);
               clear hv hbD hnew RD))
        go_wp2
        go_roundw
        case rel =>
          have hfine : (x.copied v1 v2 v v3 v4 es).Fine wD (w.heap.size + 1) := by
            have hle : w.heap.size + 1 ≤ wc.heap.size := by omega
            have hBD : Below wB.heap.size wB wD := F3.out.2.1.trans (F4.out.2.1.mono F3.out.2.1.size)
            have hAD : Below wA.heap.size wA wD := F2.out.2.1.trans (hBD.mono F2.out.2.1.size)
            exact ⟨⟨A1.out.1.q, F1.out.1.below hAD, F2.out.1.below hBD, G.out.1.below F4.out.2.2.1, F3.out.1.below F4.out.2.1, F4.out.1⟩,
              ⟨A1.out.2.p, A1.out.2.n, n3, n4, (by show es.length ≤ _; rw [G.out.2.2.1]; exact n5), G.out.2.2.2.1, n6, n8, A1.out.2.rn, A1.out.2.dn⟩,
              F1.out.2.2.mono hle, F2.out.2.2.2.mono hle, G.out.2.2.2.2.1.mono hwB, F3.out.2.2.2.mono hle, F4.out.2.2.2.mono hle, fun y hy => (G.out.2.2.2.2.2 y hy).mono hwB⟩
          have hstep := ob_step (Nat.le_refl _) RC'.out (HI1.out.2.1.trans (G.out.2.1.mono HI1.out.2.1.size)) (fun i h => (HI1.out.2.2.1 i h).below G.out.2.1) (fun y hy => (HI1.out.2.2.2 y hy).below G.out.2.1) F4.out.2.2.1 hfine hlt
          rw [show ((L'.length + 1 : Nat) : Int) = (L'.length : Int) + 1 by omega] at hstep
          with_reducible exact hstep
        case measure => simp [intOf]; omega
    · go_wp2
      go_ret
      exact ⟨⟨some ⟨w.heap.size, 0, none⟩, L.length, L.length⟩, L', rfl, ⟨by simp; omega, fun e => (by cases e), Nat.le_refl _, fun i hi => ⟨w.heap.size, 0, rfl, by simpa using HI.out.2.2.1 i hi⟩, fun x hx => (HI.out.2.2.2 x hx).at'⟩, by omega, HI.out.2.1, .inr ⟨_, rfl⟩, fun x hx =>
        let f := HI.out.2.2.2 x hx
        ⟨f.at', f.small, f.b.mono (Nat.le_succ _), f.o.mono (Nat.le_succ _), f.e.mono (Nat.le_succ _), f.r.mono (Nat.le_succ _), f.de.mono (Nat.le_succ _), fun y hy => (f.eb y hy).mono (Nat.le_succ _)⟩⟩
end Go.Proofs.Qxb6632526a
