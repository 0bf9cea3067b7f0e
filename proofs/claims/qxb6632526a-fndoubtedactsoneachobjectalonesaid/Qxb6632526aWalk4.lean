/- the second law, walked -/
import Derived.Test.Qxb6632526aEnds
import Derived.Test.Qxb6632526aBytesB
import Derived.Test.Qxb6632526aPutRange
namespace Go.Proofs.Qxb6632526a
open Go.RowKit Go.Maps

/-- the doubted endpoints are one list -/
theorem uni_one {ts tt : List ByteArray} {x : Ob} (h : Uni ts x) (k : Uni tt x) : ts = tt := by
  refine map_txt_inj (strict_unique h.up k.up fun y => ?_)
  constructor
  · intro hy
    obtain ⟨z, hz, rfl⟩ := List.mem_map.1 hy
    refine mem_txt.2 ?_
    rcases h.all z hz with h1 | ⟨e, he, rfl⟩
    · exact k.ds z h1
    · exact k.es e he
  · intro hy
    obtain ⟨z, hz, rfl⟩ := List.mem_map.1 hy
    refine mem_txt.2 ?_
    rcases k.all z hz with h1 | ⟨e, he, rfl⟩
    · exact h.ds z h1
    · exact h.es e he

theorem ends_both {W : World} {m m' : Option Nat} {x : Ob} {bl : Nat} {nn : List ByteArray} (h : Ends W m x bl nn) (h' : Ends W m' x bl nn) (k : Nat) (hk : k < nn.length) :
    ∃ y ∈ x.es, (Instr.lookup 36 (.map m) (.string nn[k]) true).run Try.prog W = .ok (.tuple #[.slice y.b.a y.b.l y.b.c, .bool true]) W ∧ (Instr.lookup 36 (.map m') (.string nn[k]) true).run Try.prog W = .ok (.tuple #[.slice y.b.a y.b.l y.b.c, .bool true]) W ∧ (Instr.lookup 42 (.map (some bl)) (.string nn[k]) false).run Try.prog W = .ok (.slice y.b.a y.b.l y.b.c) W := by
  obtain ⟨y, hy, l1, l2⟩ := h.look k hk
  obtain ⟨z, hz, l3, l4⟩ := h'.look k hk
  have e := l4.symm.trans l2
  injection e with e1 e2
  rw [e1] at l3
  exact ⟨y, hy, l1, l3, l2⟩

/-- what stands when the loop begins, and at every round's head -/
structure Loop4 (W : World) (v : SV) (L : List Ob) (B b b1 bA bA1 bB bB1 Be c : Nat) (S S1 SA SA1 SB SB1 : List (Pl × Co)) : Prop where
  obs : ObsAt W v L
  fine : ∀ x ∈ L, x.Fine W B
  s1 : StateIs W b1 S1
  sA : StateIs W bA1 SA1
  sB : StateIs W bB1 SB1
  eff : ∀ i, (h : i < L.length) → W.cell? ⟨Be, i, none⟩ = some (.bool (wins L[i] (L.drop (i + 1))))
  won : ∀ i, (h : i < L.length) → wins L[i] (L.drop (i + 1)) = true → ∃ m v1 mP vP ts, Won W b S S1 L[i] m v1 ts ∧ ((i < c ∧ Won W bA SA SA1 L[i] mP vP ts) ∨ (c ≤ i ∧ Won W bB SB SB1 L[i] mP vP ts))

theorem Loop4.below {W W' : World} {v : SV} {L : List Ob} {B b b1 bA bA1 bB bB1 Be c : Nat} {S S1 SA SA1 SB SB1 : List (Pl × Co)} (h : Loop4 W v L B b b1 bA bA1 bB bB1 Be c S S1 SA SA1 SB SB1) (hb : Below W.heap.size W W') : Loop4 W' v L B b b1 bA bA1 bB bB1 Be c S S1 SA SA1 SB SB1 :=
  ⟨h.obs.below hb, fun x hx => (h.fine x hx).below hb, MapIs.below h.s1 hb, MapIs.below h.sA hb, MapIs.below h.sB hb, fun i hi => (hb.cell (World.block_lt_of_cell? W _ (h.eff i hi))).trans (h.eff i hi),
    fun i hi hw => by
      obtain ⟨m, v1, mP, vP, ts, h1, h2⟩ := h.won i hi hw
      exact ⟨m, v1, mP, vP, ts, h1.below hb, or_turn h2 (fun ⟨e, h⟩ => ⟨e, h.below hb⟩) fun ⟨e, h⟩ => ⟨e, h.below hb⟩⟩⟩

/-- the part that an index belongs to -/
theorem Loop4.part {W : World} {v : SV} {L : List Ob} {B b b1 bA bA1 bB bB1 Be c : Nat} {S S1 SA SA1 SB SB1 : List (Pl × Co)} (h : Loop4 W v L B b b1 bA bA1 bB bB1 Be c S S1 SA SA1 SB SB1) {i : Nat} (hi : i < L.length) (hw : wins L[i] (L.drop (i + 1)) = true) :
    ∃ m v1 mP vP ts bP bP1 SP SP1, (i < c → bP1 = bA1) ∧ (c ≤ i → bP1 = bB1) ∧ StateIs W bP1 SP1 ∧ Won W b S S1 L[i] m v1 ts ∧ Won W bP SP SP1 L[i] mP vP ts := by
  obtain ⟨m, v1, mP, vP, ts, h1, h2 | h2⟩ := h.won i hi hw
  · exact ⟨m, v1, mP, vP, ts, bA, bA1, SA, SA1, fun _ => rfl, fun hc => by have := h2.1; omega, h.sA, h1, h2.2⟩
  · exact ⟨m, v1, mP, vP, ts, bB, bB1, SB, SB1, fun hc => by have := h2.1; omega, fun _ => rfl, h.sB, h1, h2.2⟩

theorem won_of_flag' {L : List Ob} {i : Nat} (h : i < L.length) (hw : wins L[i] (L.drop (i + 1)) = true) : L[i] ∈ wl (flag L) := by
  refine mem_wl ?_
  have := flag_get h
  rw [hw] at this
  rw [← this]
  exact List.getElem_mem _

/-- what a winner's round goes by -/
structure Rd (w0 W : World) (B b b1 bP bP1 Bq : Nat) (S S1 SP SP1 : List (Pl × Co)) (x : Ob) (m mP : Option Nat) (v1 vP : SV) (ts : List ByteArray) : Prop where
  s1 : StateIs W b1 S1
  sP : StateIs W bP1 SP1
  fine : x.Fine W B
  wn : Won W b S S1 x m v1 ts
  wP : Won W bP SP SP1 x mP vP ts
  box : BoxAt W Bq x
  bel : Below w0.heap.size w0 W

theorem Rd.below {w0 W W' : World} {B b b1 bP bP1 Bq : Nat} {S S1 SP SP1 : List (Pl × Co)} {x : Ob} {m mP : Option Nat} {v1 vP : SV} {ts : List ByteArray} (h : Rd w0 W B b b1 bP bP1 Bq S S1 SP SP1 x m mP v1 vP ts) (hb : Below W.heap.size W W') : Rd w0 W' B b b1 bP bP1 Bq S S1 SP SP1 x m mP v1 vP ts :=
  ⟨MapIs.below h.s1 hb, MapIs.below h.sP hb, h.fine.below hb, h.wn.below hb, h.wP.below hb, h.box.below hb, h.bel.trans (hb.mono h.bel.size)⟩

def WPost4 (w : World) (e : Ending) (w' : World) : Prop := e = .returned (.bool true) ∧ Below w.heap.size w w'

set_option maxRecDepth 100000 in
set_option maxHeartbeats 8000000 in
theorem walk4 (s : SV) (L : List Ob) (cut : Int) (w : World) (h : ObsAt w s L) : Calls Try.prog 4 #[.slice s.a s.l s.c, .int .i64 cut] w (WPost4 w) := by
  obtain ⟨sa, sl, sc⟩ := s
  have hsl : sl = L.length := h.len
  subst hsl
  simp only
  go_enter Try.func4, Try.ntmps4
  go_wp2_with fail
  refine (zzBytesB ⟨sa, L.length, sc⟩ L cut w h).mono ?_
  rintro e w1 ⟨t, rfl, hw, ht⟩
  obtain rfl : w = w1 := hw.symm
  cases t with
  | false =>
    go_wp2
    go_ret
    exact ⟨rfl, Below.refl _ _⟩
  | true =>
  obtain ⟨hL, hS⟩ := ht rfl
  have H : Hid (ObsAt w ⟨sa, L.length, sc⟩ L ∧ ∀ x ∈ L, x.Small) := ⟨h, hS⟩
  clear ht hS h hw
  go_wp2_with fail
  refine (tooBig ⟨sa, L.length, sc⟩ L w H.out.1 hL H.out.2).mono ?_
  rintro e w2 ⟨t, rfl, hb2⟩
  cases t with
  | true =>
    go_wp2
    go_ret
    exact ⟨rfl, hb2⟩
  | false =>
  have H2 : Hid (Below w.heap.size w w2) := hb2
  clear hb2
  by_cases hc0 : cut < 0
  · go_wp2
    go_ret
    exact ⟨rfl, H2.out⟩
  by_cases hc1 : (L.length : Int) < cut
  · go_wp2
    go_ret
    exact ⟨rfl, H2.out⟩
  obtain ⟨c, rfl⟩ := Int.eq_ofNat_of_zero_le (Int.not_lt.1 hc0)
  have hc : c ≤ L.length := by omega
  go_wp2_with fail
  refine (copyObjs ⟨sa, L.length, sc⟩ L w2 (H.out.1.below H2.out) hL H.out.2).mono ?_
  rintro e w3 ⟨⟨va, vl, vc⟩, L1, rfl, hobs, hlen, hb3, hpl, hfine⟩
  have hvl : vl = L1.length := hobs.len
  subst hvl
  rw [← hlen] at hL hc
  have H3 : Hid (Below w.heap.size w w3 ∧ ObsAt w3 ⟨va, L1.length, vc⟩ L1 ∧ ∀ x ∈ L1, x.Fine w3 w2.heap.size) := ⟨H2.out.trans (hb3.mono H2.out.size), hobs, hfine⟩
  clear hobs hlen hb3 hpl hfine H H2 hc0 hc1
  simp only
  go_wp2_with fail
  refine (build ⟨va, L1.length, vc⟩ L1 w2.heap.size w3 H3.out.2.1 H3.out.2.2 hL).mono ?_
  rintro e w4 ⟨b, Be, S, rfl, hI⟩
  have heff : ∀ i, (h : i < L1.length) → w4.cell? ⟨Be, i, none⟩ = some (.bool (wins L1[i] (L1.drop (i + 1)))) := fun i hi => by
    have := hI.eff i hi
    simpa only [Nat.not_lt_zero, if_false] using this
  have H4 : Hid (Below w.heap.size w w4 ∧ ObsAt w4 ⟨va, L1.length, vc⟩ L1 ∧ (∀ x ∈ L1, x.Fine w4 w2.heap.size) ∧ StateIs w4 b S ∧ Rel w4 b S (wl (flag L1)).reverse ∧ (∀ i, (h : i < L1.length) → w4.cell? ⟨Be, i, none⟩ = some (.bool (wins L1[i] (L1.drop (i + 1)))))) :=
    ⟨H3.out.1.trans (hI.bel.mono H3.out.1.size), H3.out.2.1.below hI.bel, fun x hx => (H3.out.2.2 x hx).below hI.bel, hI.st, hI.rel, heff⟩
  have HSl : Hid (S.length = (wl (flag L1)).length) := by
    have := hI.rel.length
    simp only [List.drop_zero, List.length_reverse] at this
    exact this
  have hSb : S.length ≤ 1048576 := by
    have h1 : (wl (flag L1)).length ≤ (flag L1).length := by unfold wl; rw [List.length_map]; exact List.length_filter_le _ _
    rw [flag_length] at h1
    have := HSl.out
    omega
  clear hI H3 heff
  go_wp2_with fail
  refine (newState w4).mono ?_
  rintro e w5 ⟨rfl, rfl⟩
  have HA : Hid (StateIs (w4.alloc (.map #[] 0)) w4.heap.size [] ∧ Below w4.heap.size w4 (w4.alloc (.map #[] 0))) := ⟨MapIs.made Try.prog w4 59, below_alloc _ _⟩
  generalize w4.alloc (.map #[] 0) = w5 at *
  obtain ⟨bA, hbA⟩ : ∃ bA, bA = w4.heap.size := ⟨_, rfl⟩
  rw [← hbA]
  have HA2 : Hid (StateIs w5 bA [] ∧ Below w4.heap.size w4 w5 ∧ w4.heap.size ≤ bA) := ⟨by rw [hbA]; exact HA.out.1, HA.out.2, by omega⟩
  clear HA hbA
  go_wp2_with fail
  refine (putRange w4 bA w2.heap.size Be ⟨va, L1.length, vc⟩ L1 0 c w5 H4.out.2.1 H4.out.2.2.1 H4.out.2.2.2.2.2 HA2.out.2.1 HA2.out.2.2 HA2.out.1 hL (Nat.zero_le _) hc).mono ?_
  rintro e w6 ⟨rfl, SA, hstA, hrA, hb6⟩
  have H6 : Hid (Below w4.heap.size w4 w6 ∧ StateIs w6 bA SA ∧ Rel w6 bA SA (seg L1 0 c)) := ⟨hb6, hstA, hrA⟩
  clear hstA hrA hb6 HA2
  go_wp2_with fail
  refine (newState w6).mono ?_
  rintro e w7 ⟨rfl, rfl⟩
  have HB : Hid (StateIs (w6.alloc (.map #[] 0)) w6.heap.size [] ∧ Below w6.heap.size w6 (w6.alloc (.map #[] 0))) := ⟨MapIs.made Try.prog w6 59, below_alloc _ _⟩
  generalize w6.alloc (.map #[] 0) = w7 at *
  obtain ⟨bB, hbB⟩ : ∃ bB, bB = w6.heap.size := ⟨_, rfl⟩
  rw [← hbB]
  have HB2 : Hid (StateIs w7 bB [] ∧ Below w6.heap.size w6 w7 ∧ w6.heap.size ≤ bB) := ⟨by rw [hbB]; exact HB.out.1, HB.out.2, by omega⟩
  clear HB hbB
  go_wp2_with fail
  refine (putRange w6 bB w2.heap.size Be ⟨va, L1.length, vc⟩ L1 c L1.length w7 (H4.out.2.1.below H6.out.1) (fun x hx => (H4.out.2.2.1 x hx).below H6.out.1) (fun i hi => (H6.out.1.cell (World.block_lt_of_cell? w4 _ (H4.out.2.2.2.2.2 i hi))).trans (H4.out.2.2.2.2.2 i hi)) HB2.out.2.1 HB2.out.2.2 HB2.out.1 hL hc (Nat.le_refl _)).mono ?_
  rintro e w8 ⟨rfl, SB, hstB, hrB, hb8⟩
  have hb48 : Below w4.heap.size w4 w8 := H6.out.1.trans (hb8.mono H6.out.1.size)
  have H8 : Hid (Below w.heap.size w w8 ∧ ObsAt w8 ⟨va, L1.length, vc⟩ L1 ∧ (∀ x ∈ L1, x.Fine w8 w2.heap.size) ∧ (∀ i, (h : i < L1.length) → w8.cell? ⟨Be, i, none⟩ = some (.bool (wins L1[i] (L1.drop (i + 1))))) ∧ StateIs w8 b S ∧ Rel w8 b S (wl (flag L1)).reverse) :=
    ⟨H4.out.1.trans (hb48.mono H4.out.1.size), H4.out.2.1.below hb48, fun x hx => (H4.out.2.2.1 x hx).below hb48, fun i hi => (hb48.cell (World.block_lt_of_cell? w4 _ (H4.out.2.2.2.2.2 i hi))).trans (H4.out.2.2.2.2.2 i hi), MapIs.below H4.out.2.2.2.1 hb48, H4.out.2.2.2.2.1.turn fun _ _ he => he.below hb48⟩
  have HP8 : Hid (StateIs w8 bA SA ∧ Rel w8 bA SA (seg L1 0 c) ∧ StateIs w8 bB SB ∧ Rel w8 bB SB (seg L1 c L1.length)) := ⟨MapIs.below H6.out.2.1 hb8, H6.out.2.2.turn fun _ _ he => he.below hb8, hstB, hrB⟩
  have hsum : S.length = SA.length + SB.length := by
    rw [HSl.out, H6.out.2.2.length, hrB.length, seg_total]
  clear hb8 hb48 hstB hrB H4 H6 HB2 HSl
  go_wp2_with fail
  have hX : ((wl (flag L1)).reverse.map (·.pl)).Nodup := by
    rw [List.map_reverse]
    exact (List.reverse_perm _).nodup_iff.2 (wl_nodup L1)
  have hXm : ∀ x ∈ (wl (flag L1)).reverse, x ∈ L1 := fun x hx => flag_fst (wl_mem (List.mem_reverse.1 hx))
  have HX : Hid (((wl (flag L1)).reverse.map (·.pl)).Nodup ∧ ∀ x ∈ (wl (flag L1)).reverse, x ∈ L1) := ⟨hX, hXm⟩
  have HSum : Hid (S.length = SA.length + SB.length) := hsum
  clear hX hXm hsum
  refine (doubt1 b S (wl (flag L1)).reverse w2.heap.size w8 H8.out.2.2.2.2.1 H8.out.2.2.2.2.2 (fun x hx => H8.out.2.2.1 x (HX.out.2 x hx)) HX.out.1).mono ?_
  rintro e w9 ⟨b1, S1, rfl, hst1, hb9, hl1, hwon⟩
  have H9 : Hid (StateIs w9 b1 S1 ∧ Below w8.heap.size w8 w9 ∧ S1.length = S.length ∧ (∀ x ∈ (wl (flag L1)).reverse, ∃ m v1 ts, Won w9 b S S1 x m v1 ts)) := ⟨hst1, hb9, hl1, hwon⟩
  clear hst1 hb9 hl1 hwon
  go_wp2_with fail
  refine (doubt1 bA SA (seg L1 0 c) w2.heap.size w9 (MapIs.below HP8.out.1 H9.out.2.1) (HP8.out.2.1.turn fun _ _ he => he.below H9.out.2.1) (fun x hx => (H8.out.2.2.1 x (seg_mem hx)).below H9.out.2.1) (seg_nodup L1 0 c)).mono ?_
  rintro e w10 ⟨bA1, SA1, rfl, hstA1, hb10, hlA1, hwonA⟩
  have H10 : Hid (StateIs w10 bA1 SA1 ∧ Below w9.heap.size w9 w10 ∧ SA1.length = SA.length ∧ (∀ x ∈ seg L1 0 c, ∃ m v1 ts, Won w10 bA SA SA1 x m v1 ts)) := ⟨hstA1, hb10, hlA1, hwonA⟩
  clear hstA1 hb10 hlA1 hwonA
  have HB10 : Hid (Below w8.heap.size w8 w10) := H9.out.2.1.trans (H10.out.2.1.mono H9.out.2.1.size)
  go_wp2_with fail
  refine (doubt1 bB SB (seg L1 c L1.length) w2.heap.size w10 (MapIs.below HP8.out.2.2.1 HB10.out) (HP8.out.2.2.2.turn fun _ _ he => he.below HB10.out) (fun x hx => (H8.out.2.2.1 x (seg_mem hx)).below HB10.out) (seg_nodup L1 c L1.length)).mono ?_
  rintro e w11 ⟨bB1, SB1, rfl, hstB1, hb11, hlB1, hwonB⟩
  have hT : Loop4 w11 ⟨va, L1.length, vc⟩ L1 w2.heap.size b b1 bA bA1 bB bB1 Be c S S1 SA SA1 SB SB1 := by
    have hb811 : Below w8.heap.size w8 w11 := HB10.out.trans (hb11.mono HB10.out.size)
    have hb911 : Below w9.heap.size w9 w11 := H10.out.2.1.trans (hb11.mono H10.out.2.1.size)
    refine ⟨H8.out.2.1.below hb811, fun x hx => (H8.out.2.2.1 x hx).below hb811, MapIs.below H9.out.1 hb911, MapIs.below H10.out.1 hb11, hstB1, fun i hi => (hb811.cell (World.block_lt_of_cell? w8 _ (H8.out.2.2.2.1 i hi))).trans (H8.out.2.2.2.1 i hi), fun i hi hw => ?_⟩
    obtain ⟨m, v1, ts, hw1⟩ := H9.out.2.2.2 _ (List.mem_reverse.2 (won_of_flag' hi hw))
    by_cases hic : i < c
    · obtain ⟨mP, vP, tt, hw2⟩ := H10.out.2.2.2 _ (seg_has hi (Nat.zero_le _) hic hw)
      obtain rfl : ts = tt := uni_one hw1.u hw2.u
      exact ⟨m, v1, mP, vP, ts, hw1.below hb911, .inl ⟨hic, hw2.below hb11⟩⟩
    · obtain ⟨mP, vP, tt, hw2⟩ := hwonB _ (seg_has hi (by omega) hi hw)
      obtain rfl : ts = tt := uni_one hw1.u hw2.u
      exact ⟨m, v1, mP, vP, ts, hw1.below hb911, .inr ⟨by omega, hw2⟩⟩
  have HT : Hid (Loop4 w11 ⟨va, L1.length, vc⟩ L1 w2.heap.size b b1 bA bA1 bB bB1 Be c S S1 SA SA1 SB SB1 ∧ Below w.heap.size w w11) := ⟨hT, H8.out.1.trans ((HB10.out.trans (hb11.mono HB10.out.size)).mono H8.out.1.size)⟩
  have q1 := fun ty => MapIs.len hT.s1 Try.underlying26 ty
  have qA := fun ty => MapIs.len hT.sA Try.underlying26 ty
  have qB := fun ty => MapIs.len hT.sB Try.underlying26 ty
  simp only [List.length_map, H9.out.2.2.1, HSum.out] at q1
  simp only [List.length_map, H10.out.2.2.1] at qA
  simp only [List.length_map, hlB1] at qB
  rw [HSum.out] at hSb
  generalize SA.length = nA at *
  generalize SB.length = nB at *
  clear hT hstB1 hb11 hlB1 hwonB H8 H9 H10 HB10 HP8 HX HSum
  go_wp2_with fail
  clear q1 qA qB
  go_loopw [13] (fun i wr => ∃ k : Nat, k ≤ L1.length ∧ i = .int .i64 k ∧ Below w11.heap.size w11 wr) (fun i _ => L1.length - (intOf i).toNat)
  case atStart => exact ⟨0, Nat.zero_le _, rfl, Below.refl _ _⟩
  case round =>
    obtain ⟨k, hk, rfl, hb⟩ := hrel
    by_cases hlt : k < L1.length
    · have LT := HT.out.1.below hb
      obtain ⟨bo, off, ha, N⟩ := LT.obs.cell k hlt
      simp only at ha
      subst ha
      have ce := LT.eff k hlt
      have HR : Hid (Below w11.heap.size w11 wr) := hb
      cases hw : wins L1[k] (L1.drop (k + 1)) with
      | false =>
        rw [hw] at ce
        clear LT N hb
        go_wp2
        go_roundw
        case rel => exact ⟨k + 1, by omega, by go_num, HR.out⟩
        case measure => simp [intOf]; omega
      | true =>
        rw [hw] at ce
        obtain ⟨m, v1, mP, vP, ts, bP, bP1, SP, SP1, hlo, hhi, hstP, hwon, hwP⟩ := LT.part hlt hw
        have HF : Hid (StateIs wr b1 S1 ∧ StateIs wr bP1 SP1 ∧ L1[k].Fine wr w2.heap.size ∧ Won wr b S S1 L1[k] m v1 ts ∧ Won wr bP SP SP1 L1[k] mP vP ts) := ⟨LT.s1, hstP, LT.fine _ (List.getElem_mem hlt), hwon, hwP⟩
        have HP : Hid ((k < c → bP1 = bA1) ∧ (c ≤ k → bP1 = bB1)) := ⟨hlo, hhi⟩
        clear LT hb hwon hwP hstP hlo hhi hw
        generalize L1[k] = x at *
        obtain ⟨c0, c1, c2, c3, c4, c5, c6, c7, c8⟩ := N
        have HX : Hid (BoxAt _ _ _ ∧ Below _ _ _) := ⟨boxed wr x, below_alloc wr (.cells #[.string x.p, .int .i64 x.q, .string x.n, .slice x.b.a x.b.l x.b.c, .slice x.o.a x.o.l x.o.c, .slice x.e.a x.e.l x.e.c, .slice x.r.a x.r.l x.r.c, .bool x.d, .slice x.de.a x.de.l x.de.c] 35)⟩
        go_upto_if 110 with fail
        generalize hW : wr.alloc _ = W1 at *
        clear hW c0 c1 c2 c3 c4 c5 c6 c7 c8 ce
        have F1' : Hid (Rd w11 W1 w2.heap.size b b1 bP bP1 wr.heap.size S S1 SP SP1 x m mP v1 vP ts) :=
          ⟨MapIs.below HF.out.1 HX.out.2, MapIs.below HF.out.2.1 HX.out.2, HF.out.2.2.1.below HX.out.2, HF.out.2.2.2.1.below HX.out.2, HF.out.2.2.2.2.below HX.out.2, HX.out.1, HR.out.trans (HX.out.2.mono HR.out.size)⟩
        clear HX HF HR
        generalize wr.heap.size = Bq at *
        go_cut [15] (fun s wx => s = .map (some bP1) ∧ wx = W1)
        case first =>
          by_cases hkc : c ≤ k
          · have e1 := HP.out.2 hkc
            subst e1
            go_wp2
            go_meet
            exact ⟨rfl, rfl⟩
          · have e1 := HP.out.1 (by omega)
            subst e1
            go_wp2
            go_meet
            exact ⟨rfl, rfl⟩
        case rest =>
          obtain ⟨rfl, hWc⟩ := hcut
          obtain rfl : W1 = wc := hWc.symm
          clear hWc HP
          obtain ⟨d0, d1, d2, d3, d4, d5, d6, d7, d8⟩ := F1'.out.box
          have hent : Calls Try.prog 10 #[.map (some b1), .string x.p, .int .i64 x.q, .string x.n] W1 (fun e w' => e = .returned (.tuple #[.bool true, .slice x.b.a x.b.l x.b.c, .slice x.o.a x.o.l x.o.c, .map m, .slice x.r.a x.r.l x.r.c, .bool true, .slice v1.a v1.l v1.c]) ∧ Below W1.heap.size W1 w') :=
            entry_hit b1 x.pl ((x.co m).doubt v1) S1 W1 F1'.out.s1 F1'.out.wn.i1
          go_wp2_with fail
          refine hent.mono ?_
          rintro e W2 ⟨rfl, hb2⟩
          have F2 : Hid (Rd w11 W2 w2.heap.size b b1 bP bP1 Bq S S1 SP SP1 x m mP v1 vP ts) := F1'.out.below hb2
          clear hent hb2 F1' d0 d1 d2 d3 d4 d5 d6 d7 d8
          obtain ⟨d0, d1, d2, d3, d4, d5, d6, d7, d8⟩ := F2.out.box
          go_wp2_with fail
          refine (same_bytes x.b x.bs W2 F2.out.fine.at'.b F2.out.fine.b.plain).mono ?_
          rintro e W' ⟨rfl, hW⟩
          obtain rfl : W2 = W' := hW.symm
          clear hW
          go_wp2_with fail
          refine (same_bytes x.o x.os W2 F2.out.fine.at'.o F2.out.fine.o.plain).mono ?_
          rintro e W' ⟨rfl, hW⟩
          obtain rfl : W2 = W' := hW.symm
          clear hW
          go_wp2_with fail
          refine (same_strs x.r x.rs W2 F2.out.fine.at'.r (by have := F2.out.fine.small.r; omega)).mono ?_
          rintro e W3 ⟨rfl, hb3⟩
          have F3 : Hid (Rd w11 W3 w2.heap.size b b1 bP bP1 Bq S S1 SP SP1 x m mP v1 vP ts) := F2.out.below hb3
          clear hb3 F2 d0 d1 d2 d3 d4 d5 d6 d7 d8
          obtain ⟨d0, d1, d2, d3, d4, d5, d6, d7, d8⟩ := F3.out.box
          go_wp2_with fail
          refine (union v1 x.de x.e ts x.ds x.es W3 ⟨F3.out.wn.s1, F3.out.fine.at'.de, F3.out.fine.at'.e, F3.out.wn.u.up, F3.out.wn.u.ds, F3.out.wn.u.es, F3.out.wn.u.all, (fun y hy => by
            rcases F3.out.wn.u.all y hy with h | ⟨e, he, rfl⟩
            · exact F3.out.fine.small.dn y h
            · exact (F3.out.fine.small.en e he).1), F3.out.wn.u.len, (by have := F3.out.fine.small.de; omega), (by have := F3.out.fine.small.e; omega)⟩).mono ?_
          rintro e W4 ⟨rfl, hb4⟩
          have F4 : Hid (Rd w11 W4 w2.heap.size b b1 bP bP1 Bq S S1 SP SP1 x m mP v1 vP ts) := F3.out.below hb4
          clear hb4 F3 d0 d1 d2 d3 d4 d5 d6 d7 d8
          obtain ⟨d0, d1, d2, d3, d4, d5, d6, d7, d8⟩ := F4.out.box
          have hent2 : Calls Try.prog 10 #[.map (some bP1), .string x.p, .int .i64 x.q, .string x.n] W4 (fun e w' => e = .returned (.tuple #[.bool true, .slice x.b.a x.b.l x.b.c, .slice x.o.a x.o.l x.o.c, .map mP, .slice x.r.a x.r.l x.r.c, .bool true, .slice vP.a vP.l vP.c]) ∧ Below W4.heap.size W4 w') :=
            entry_hit bP1 x.pl ((x.co mP).doubt vP) SP1 W4 F4.out.sP F4.out.wP.i1
          go_wp2_with fail
          refine hent2.mono ?_
          rintro e W5 ⟨rfl, hb5⟩
          have F5 : Hid (Rd w11 W5 w2.heap.size b b1 bP bP1 Bq S S1 SP SP1 x m mP v1 vP ts) := F4.out.below hb5
          clear hent2 hb5 F4 d0 d1 d2 d3 d4 d5 d6 d7 d8
          obtain ⟨d0, d1, d2, d3, d4, d5, d6, d7, d8⟩ := F5.out.box
          go_wp2_with fail
          refine (same_bytes x.b x.bs W5 F5.out.fine.at'.b F5.out.fine.b.plain).mono ?_
          rintro e W' ⟨rfl, hW⟩
          obtain rfl : W5 = W' := hW.symm
          clear hW
          go_wp2_with fail
          refine (same_bytes x.o x.os W5 F5.out.fine.at'.o F5.out.fine.o.plain).mono ?_
          rintro e W' ⟨rfl, hW⟩
          obtain rfl : W5 = W' := hW.symm
          clear hW
          go_wp2_with fail
          refine (same_strs x.r x.rs W5 F5.out.fine.at'.r (by have := F5.out.fine.small.r; omega)).mono ?_
          rintro e W6 ⟨rfl, hb6⟩
          have F6 : Hid (Rd w11 W6 w2.heap.size b b1 bP bP1 Bq S S1 SP SP1 x m mP v1 vP ts) := F5.out.below hb6
          clear hb6 F5 d0 d1 d2 d3 d4 d5 d6 d7 d8
          obtain ⟨d0, d1, d2, d3, d4, d5, d6, d7, d8⟩ := F6.out.box
          go_wp2_with fail
          refine (same_list vP v1 ts W6 F6.out.wP.s1 F6.out.wn.s1 F6.out.wn.u.len).mono ?_
          rintro e W7 ⟨rfl, hb7⟩
          have F7 : Hid (Rd w11 W7 w2.heap.size b b1 bP bP1 Bq S S1 SP SP1 x m mP v1 vP ts) := F6.out.below hb7
          clear hb7 F6 d0 d1 d2 d3 d4 d5 d6 d7 d8
          obtain ⟨d0, d1, d2, d3, d4, d5, d6, d7, d8⟩ := F7.out.box
          go_wp2_with fail
          refine (planLast x.e x.es W7 F7.out.fine.at'.e F7.out.fine.small.e (fun e he => (F7.out.fine.small.en e he).1)).mono ?_
          rintro e W8 ⟨⟨na, nl, nc⟩, nn, bl, LL, rfl, hLI⟩
          have hnl : nl = nn.length := (strs_of_own hLI.own).len
          subst hnl
          have hb8 := hLI.bel
          have NL : Hid (StrsAt W8 ⟨na, nn.length, nc⟩ nn ∧ MapIs Try.prog W8 9 bl LL ∧ LL.map (·.1) = nn.map Value.string ∧ LastMap x.es LL) := ⟨strs_of_own hLI.own, hLI.map, hLI.keys, hLI.last⟩
          clear hLI
          have F8 : Hid (Rd w11 W8 w2.heap.size b b1 bP bP1 Bq S S1 SP SP1 x m mP v1 vP ts) := F7.out.below hb8
          clear hb8 F7 d0 d1 d2 d3 d4 d5 d6 d7 d8
          obtain ⟨d0, d1, d2, d3, d4, d5, d6, d7, d8⟩ := F8.out.box
          have E8 : Hid (Ends W8 m x bl nn ∧ Ends W8 mP x bl nn) := ⟨ends F8.out.wn.e NL.out.2.1 NL.out.2.2.1 NL.out.2.2.2, ends F8.out.wP.e NL.out.2.1 NL.out.2.2.1 NL.out.2.2.2⟩
          have el := E8.out.1.len
          have elP := E8.out.2.len
          have en := E8.out.1.nil
          have enP := E8.out.2.nil
          have es := Lib.run_eql_slice_nil (P := Try.prog) W8 32 50 x.e.a x.e.l x.e.c 0 0 Try.underlying32
          have hnn : nn.length ≤ 1048576 := Nat.le_trans E8.out.1.le F8.out.fine.small.e
          simp only
          go_wp2_with fail
          go_loop [32] (fun i => ∃ j : Nat, j ≤ nn.length ∧ i = .int .i64 j) (fun i => nn.length - (intOf i).toNat)
          case atStart => exact ⟨0, Nat.zero_le _, rfl⟩
          case round =>
            obtain ⟨j, hj, rfl⟩ := hrel
            by_cases hjlt : j < nn.length
            · obtain ⟨y, hy, l1, l3, l2⟩ := ends_both E8.out.1 E8.out.2 j hjlt
              obtain ⟨b9, off9, e9, c9⟩ := NL.out.1.cell j hjlt
              simp only at e9
              subst e9
              go_wp2_with fail
              refine (same_bytes y.b y.xs W8 (F8.out.fine.at'.e.body y hy) (F8.out.fine.eb y hy).plain).mono ?_
              rintro e W' ⟨rfl, hW⟩
              obtain rfl : W8 = W' := hW.symm
              clear hW
              go_wp2_with fail
              refine (same_bytes y.b y.xs W8 (F8.out.fine.at'.e.body y hy) (F8.out.fine.eb y hy).plain).mono ?_
              rintro e W' ⟨rfl, hW⟩
              obtain rfl : W8 = W' := hW.symm
              clear hW
              go_wp2_with fail
              go_round
              case rel => exact ⟨j + 1, by omega, by go_num⟩
              case measure => simp [intOf]; omega
            · clear el elP en enP es E8 NL
              go_wp2_with fail
              go_roundw
              case rel => exact ⟨k + 1, by omega, by go_num, F8.out.bel⟩
              case measure => simp [intOf]; omega
    · go_wp2
      go_ret
      exact ⟨rfl, HT.out.2.trans (hb.mono HT.out.2.size)⟩
end Go.Proofs.Qxb6632526a
