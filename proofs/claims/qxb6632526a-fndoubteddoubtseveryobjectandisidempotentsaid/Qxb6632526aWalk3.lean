/- the first law, walked -/
import Derived.Test.Qxb6632526aEnds
import Derived.Test.Qxb6632526aBytesA
namespace Go.Proofs.Qxb6632526a
open Go.RowKit Go.Maps

/-- what stands when the loop begins, and at every round's head -/
structure Loop3 (W : World) (v : SV) (L : List Ob) (B b b1 b2 Be : Nat) (S S1 S2 : List (Pl × Co)) : Prop where
  obs : ObsAt W v L
  fine : ∀ x ∈ L, x.Fine W B
  s0 : StateIs W b S
  s1 : StateIs W b1 S1
  s2 : StateIs W b2 S2
  eff : ∀ i, (h : i < L.length) → W.cell? ⟨Be, i, none⟩ = some (.bool (wins L[i] (L.drop (i + 1))))
  won : ∀ i, (h : i < L.length) → wins L[i] (L.drop (i + 1)) = true → ∃ m v1 v2 ts, Won W b S S1 L[i] m v1 ts ∧ (L[i].pl, ((L[i].co m).doubt v1).doubt v2) ∈ S2 ∧ StrsAt W v2 ts

theorem Loop3.below {W W' : World} {v : SV} {L : List Ob} {B b b1 b2 Be : Nat} {S S1 S2 : List (Pl × Co)} (h : Loop3 W v L B b b1 b2 Be S S1 S2) (hb : Below W.heap.size W W') : Loop3 W' v L B b b1 b2 Be S S1 S2 :=
  ⟨h.obs.below hb, fun x hx => (h.fine x hx).below hb, MapIs.below h.s0 hb, MapIs.below h.s1 hb, MapIs.below h.s2 hb, fun i hi => (hb.cell (World.block_lt_of_cell? W _ (h.eff i hi))).trans (h.eff i hi),
    fun i hi hw => by
      obtain ⟨m, v1, v2, ts, h1, h2, h3⟩ := h.won i hi hw
      exact ⟨m, v1, v2, ts, h1.below hb, h2, h3.below hb⟩⟩

theorem won_of_flag {L : List Ob} {i : Nat} (h : i < L.length) (hw : wins L[i] (L.drop (i + 1)) = true) : L[i] ∈ wl (flag L) := by
  refine mem_wl ?_
  have := flag_get h
  rw [hw] at this
  rw [← this]
  exact List.getElem_mem _

def WPost (w : World) (e : Ending) (w' : World) : Prop := e = .returned (.bool true) ∧ Below w.heap.size w w'

set_option maxRecDepth 100000 in
set_option maxHeartbeats 8000000 in
theorem walk3 (s : SV) (L : List Ob) (w : World) (h : ObsAt w s L) : Calls Try.prog 3 #[.slice s.a s.l s.c] w (WPost w) := by
  go_enter Try.func3, Try.ntmps3
  go_wp2_with fail
  refine (zzBytes s L w h).mono ?_
  rintro e w1 ⟨t, rfl, hw, ht⟩
  obtain rfl : w = w1 := hw.symm
  cases t with
  | false =>
    go_wp2
    go_ret
    exact ⟨rfl, Below.refl _ _⟩
  | true =>
  obtain ⟨hL, hS⟩ := ht rfl
  have H : Hid (ObsAt w s L ∧ ∀ x ∈ L, x.Small) := ⟨h, hS⟩
  clear ht hS h hw
  go_wp2_with fail
  refine (tooBig s L w H.out.1 hL H.out.2).mono ?_
  rintro e w2 ⟨t, rfl, hb2⟩
  cases t with
  | true =>
    go_wp2
    go_ret
    exact ⟨rfl, hb2⟩
  | false =>
  have H2 : Hid (Below w.heap.size w w2) := hb2
  clear hb2
  go_wp2_with fail
  refine (copyObjs s L w2 (H.out.1.below H2.out) hL H.out.2).mono ?_
  rintro e w3 ⟨⟨va, vl, vc⟩, L1, rfl, hobs, hlen, hb3, hpl, hfine⟩
  have hvl : vl = L1.length := hobs.len
  subst hvl
  rw [← hlen] at hL
  have H3 : Hid (Below w.heap.size w w3 ∧ ObsAt w3 ⟨va, L1.length, vc⟩ L1 ∧ ∀ x ∈ L1, x.Fine w3 w2.heap.size) := ⟨H2.out.trans (hb3.mono H2.out.size), hobs, hfine⟩
  clear hobs hlen hb3 hpl hfine H H2
  simp only
  go_wp2_with fail
  refine (build ⟨va, L1.length, vc⟩ L1 w2.heap.size w3 H3.out.2.1 H3.out.2.2 hL).mono ?_
  rintro e w4 ⟨b, Be, S, rfl, hI⟩
  have H4 : Hid (Below w.heap.size w w4 ∧ ObsAt w4 ⟨va, L1.length, vc⟩ L1 ∧ (∀ x ∈ L1, x.Fine w4 w2.heap.size) ∧ BInv w3 w4 b Be L1 0 S) :=
    ⟨H3.out.1.trans (hI.bel.mono H3.out.1.size), H3.out.2.1.below hI.bel, fun x hx => (H3.out.2.2 x hx).below hI.bel, hI⟩
  have hSl : S.length = (wl (flag L1)).length := by have := hI.rel.length; simpa using this
  have hSb : S.length ≤ 1048576 := by
    have h1 : (wl (flag L1)).length ≤ (flag L1).length := by unfold wl; rw [List.length_map]; exact List.length_filter_le _ _
    rw [flag_length] at h1
    omega
  have HSl : Hid (S.length = (wl (flag L1)).length) := hSl
  clear hI H3 hSl
  go_wp2_with fail
  have hX : ((wl (flag L1)).reverse.map (·.pl)).Nodup := by
    rw [List.map_reverse]
    exact (List.reverse_perm _).nodup_iff.2 (wl_nodup L1)
  have hXm : ∀ x ∈ (wl (flag L1)).reverse, x ∈ L1 := fun x hx => flag_fst (wl_mem (List.mem_reverse.1 hx))
  have HX : Hid (((wl (flag L1)).reverse.map (·.pl)).Nodup ∧ ∀ x ∈ (wl (flag L1)).reverse, x ∈ L1) := ⟨hX, hXm⟩
  clear hX hXm
  refine (doubt1 b S (wl (flag L1)).reverse w2.heap.size w4 H4.out.2.2.2.st H4.out.2.2.2.rel (fun x hx => H4.out.2.2.1 x (HX.out.2 x hx)) HX.out.1).mono ?_
  rintro e w5 ⟨b1, S1, rfl, hst1, hb5, hl1, hwon⟩
  have H5 : Hid (StateIs w5 b1 S1 ∧ Below w4.heap.size w4 w5 ∧ (∀ x ∈ (wl (flag L1)).reverse, ∃ m v1 ts, Won w5 b S S1 x m v1 ts)) := ⟨hst1, hb5, hwon⟩
  clear hst1 hb5 hwon
  go_wp2_with fail
  refine (doubt2 b b1 S S1 (wl (flag L1)).reverse w2.heap.size w5 H5.out.1 H5.out.2.2 (by rw [hl1, HSl.out]; simp) (fun x hx => (H4.out.2.2.1 x (HX.out.2 x hx)).below H5.out.2.1) HX.out.1).mono ?_
  rintro e w6 ⟨b2, S2, rfl, hst2, hb6, hl2, hwon2⟩
  have hT : Loop3 w6 ⟨va, L1.length, vc⟩ L1 w2.heap.size b b1 b2 Be S S1 S2 := by
    have hb46 : Below w4.heap.size w4 w6 := H5.out.2.1.trans (hb6.mono H5.out.2.1.size)
    refine ⟨H4.out.2.1.below hb46, fun x hx => (H4.out.2.2.1 x hx).below hb46, MapIs.below H4.out.2.2.2.st hb46, MapIs.below H5.out.1 hb6, hst2, fun i hi => ?_, fun i hi hw => ?_⟩
    · have := H4.out.2.2.2.eff i hi
      simp only [Nat.not_lt_zero, if_false] at this
      exact (hb46.cell (World.block_lt_of_cell? w4 _ this)).trans this
    · have hin := List.mem_reverse.2 (won_of_flag hi hw)
      obtain ⟨m, v1, ts, hw1⟩ := H5.out.2.2 _ hin
      obtain ⟨v2, h1, h2⟩ := hwon2 _ hin m v1 ts hw1
      exact ⟨m, v1, v2, ts, hw1.below hb6, h1, h2⟩
  have HT : Hid (Loop3 w6 ⟨va, L1.length, vc⟩ L1 w2.heap.size b b1 b2 Be S S1 S2 ∧ Below w.heap.size w w6) := ⟨hT, H4.out.1.trans ((H5.out.2.1.trans (hb6.mono H5.out.2.1.size)).mono H4.out.1.size)⟩
  have q0 := fun ty => MapIs.len hT.s0 Try.underlying26 ty
  have q1 := fun ty => MapIs.len hT.s1 Try.underlying26 ty
  have q2 := fun ty => MapIs.len hT.s2 Try.underlying26 ty
  simp only [List.length_map, hl1] at q1
  simp only [List.length_map, hl2, hl1] at q2
  simp only [List.length_map] at q0
  clear hT hst2 hb6 hl2 hwon2 H4 H5 HX hl1 HSl
  go_wp2_with fail
  clear q0 q1 q2
  go_loopw [8] (fun i wr => ∃ k : Nat, k ≤ L1.length ∧ i = .int .i64 k ∧ Below w6.heap.size w6 wr) (fun i _ => L1.length - (intOf i).toNat)
  case atStart => exact ⟨0, Nat.zero_le _, rfl, Below.refl _ _⟩
  case round =>
    obtain ⟨k, hk, rfl, hb⟩ := hrel
    by_cases hlt : k < L1.length
    · have LT := HT.out.1.below hb
      obtain ⟨bo, off, ha, N⟩ := LT.obs.cell k hlt
      simp only at ha
      subst ha
      have ce := LT.eff k hlt
      have HR : Hid (Below w6.heap.size w6 wr) := hb
      cases hw : wins L1[k] (L1.drop (k + 1)) with
      | false =>
        rw [hw] at ce
        clear LT N hb
        go_wp2
        go_roundw
        case rel => exact ⟨k + 1, by omega, by go_num, HR.out⟩
        case measure => simp [intOf]; omega
      | true =>
        rw [hw] at ce
        obtain ⟨m, v1, v2, ts, hwon, hi2, hs2⟩ := LT.won k hlt hw
        have HF : Hid (Loop3 wr ⟨some ⟨bo, off, none⟩, L1.length, vc⟩ L1 w2.heap.size b b1 b2 Be S S1 S2 ∧ L1[k].Fine wr w2.heap.size ∧ Won wr b S S1 L1[k] m v1 ts ∧ (L1[k].pl, ((L1[k].co m).doubt v1).doubt v2) ∈ S2 ∧ StrsAt wr v2 ts) := ⟨LT, LT.fine _ (List.getElem_mem hlt), hwon, hi2, hs2⟩
        clear LT hb hwon hi2 hs2 hw
        generalize L1[k] = x at *
        obtain ⟨c0, c1, c2, c3, c4, c5, c6, c7, c8⟩ := N
        have HX : Hid (BoxAt _ _ _ ∧ Below _ _ _) := ⟨boxed wr x, below_alloc wr (.cells #[.string x.p, .int .i64 x.q, .string x.n, .slice x.b.a x.b.l x.b.c, .slice x.o.a x.o.l x.o.c, .slice x.e.a x.e.l x.e.c, .slice x.r.a x.r.l x.r.c, .bool x.d, .slice x.de.a x.de.l x.de.c] 35)⟩
        go_wp2_with fail
        generalize hW : wr.alloc _ = W1 at *
        clear hW c0 c1 c2 c3 c4 c5 c6 c7 c8 ce
        have M : Hid ((x.pl, ((x.co m).doubt v1).doubt v2) ∈ S2) := HF.out.2.2.2.1
        have F1 : Hid (StateIs W1 b S ∧ StateIs W1 b1 S1 ∧ StateIs W1 b2 S2 ∧ x.Fine W1 w2.heap.size ∧ Won W1 b S S1 x m v1 ts ∧ StrsAt W1 v2 ts) :=
          ⟨MapIs.below HF.out.1.s0 HX.out.2, MapIs.below HF.out.1.s1 HX.out.2, MapIs.below HF.out.1.s2 HX.out.2, HF.out.2.1.below HX.out.2, HF.out.2.2.1.below HX.out.2, HF.out.2.2.2.2.below HX.out.2⟩
        have BX : Hid (BoxAt W1 wr.heap.size x ∧ Below w6.heap.size w6 W1) := ⟨HX.out.1, HR.out.trans (HX.out.2.mono HR.out.size)⟩
        clear HX HF HR
        generalize wr.heap.size = Bq at *
        have hent : Calls Try.prog 10 #[.map (some b1), .string x.p, .int .i64 x.q, .string x.n] W1 (fun e w' => e = .returned (.tuple #[.bool true, .slice x.b.a x.b.l x.b.c, .slice x.o.a x.o.l x.o.c, .map m, .slice x.r.a x.r.l x.r.c, .bool true, .slice v1.a v1.l v1.c]) ∧ Below W1.heap.size W1 w') :=
          entry_hit b1 x.pl ((x.co m).doubt v1) S1 W1 F1.out.2.1 F1.out.2.2.2.2.1.i1
        refine hent.mono ?_
        rintro e W2 ⟨rfl, hb2⟩
        have F2 : Hid (StateIs W2 b S ∧ StateIs W2 b1 S1 ∧ StateIs W2 b2 S2 ∧ x.Fine W2 w2.heap.size ∧ Won W2 b S S1 x m v1 ts ∧ StrsAt W2 v2 ts) :=
          ⟨MapIs.below F1.out.1 hb2, MapIs.below F1.out.2.1 hb2, MapIs.below F1.out.2.2.1 hb2, F1.out.2.2.2.1.below hb2, F1.out.2.2.2.2.1.below hb2, F1.out.2.2.2.2.2.below hb2⟩
        have BX2 : Hid (BoxAt W2 Bq x ∧ Below w6.heap.size w6 W2) := ⟨BX.out.1.below hb2, BX.out.2.trans (hb2.mono BX.out.2.size)⟩
        clear hent hb2 F1 BX
        obtain ⟨d0, d1, d2, d3, d4, d5, d6, d7, d8⟩ := BX2.out.1
        go_wp2_with fail
        refine (same_bytes x.b x.bs W2 F2.out.2.2.2.1.at'.b F2.out.2.2.2.1.b.plain).mono ?_
        rintro e W' ⟨rfl, hW⟩
        obtain rfl : W2 = W' := hW.symm
        clear hW
        go_wp2_with fail
        refine (same_bytes x.o x.os W2 F2.out.2.2.2.1.at'.o F2.out.2.2.2.1.o.plain).mono ?_
        rintro e W' ⟨rfl, hW⟩
        obtain rfl : W2 = W' := hW.symm
        clear hW
        go_wp2_with fail
        refine (same_strs x.r x.rs W2 F2.out.2.2.2.1.at'.r (by have := F2.out.2.2.2.1.small.r; omega)).mono ?_
        rintro e W3 ⟨rfl, hb3⟩
        have F3 : Hid (StateIs W3 b S ∧ StateIs W3 b1 S1 ∧ StateIs W3 b2 S2 ∧ x.Fine W3 w2.heap.size ∧ Won W3 b S S1 x m v1 ts ∧ StrsAt W3 v2 ts) :=
          ⟨MapIs.below F2.out.1 hb3, MapIs.below F2.out.2.1 hb3, MapIs.below F2.out.2.2.1 hb3, F2.out.2.2.2.1.below hb3, F2.out.2.2.2.2.1.below hb3, F2.out.2.2.2.2.2.below hb3⟩
        have BX3 : Hid (BoxAt W3 Bq x ∧ Below w6.heap.size w6 W3) := ⟨BX2.out.1.below hb3, BX2.out.2.trans (hb3.mono BX2.out.2.size)⟩
        clear hb3 F2 BX2 d0 d1 d2 d3 d4 d5 d6 d7 d8
        obtain ⟨d0, d1, d2, d3, d4, d5, d6, d7, d8⟩ := BX3.out.1
        go_wp2_with fail
        refine (union v1 x.de x.e ts x.ds x.es W3 ⟨F3.out.2.2.2.2.1.s1, F3.out.2.2.2.1.at'.de, F3.out.2.2.2.1.at'.e, F3.out.2.2.2.2.1.u.up, F3.out.2.2.2.2.1.u.ds, F3.out.2.2.2.2.1.u.es, F3.out.2.2.2.2.1.u.all, (fun y hy => by
          rcases F3.out.2.2.2.2.1.u.all y hy with h | ⟨e, he, rfl⟩
          · exact F3.out.2.2.2.1.small.dn y h
          · exact (F3.out.2.2.2.1.small.en e he).1), F3.out.2.2.2.2.1.u.len, (by have := F3.out.2.2.2.1.small.de; omega), (by have := F3.out.2.2.2.1.small.e; omega)⟩).mono ?_
        rintro e W4 ⟨rfl, hb4⟩
        have F4 : Hid (StateIs W4 b S ∧ StateIs W4 b1 S1 ∧ StateIs W4 b2 S2 ∧ x.Fine W4 w2.heap.size ∧ Won W4 b S S1 x m v1 ts ∧ StrsAt W4 v2 ts) :=
          ⟨MapIs.below F3.out.1 hb4, MapIs.below F3.out.2.1 hb4, MapIs.below F3.out.2.2.1 hb4, F3.out.2.2.2.1.below hb4, F3.out.2.2.2.2.1.below hb4, F3.out.2.2.2.2.2.below hb4⟩
        have BX4 : Hid (BoxAt W4 Bq x ∧ Below w6.heap.size w6 W4) := ⟨BX3.out.1.below hb4, BX3.out.2.trans (hb4.mono BX3.out.2.size)⟩
        clear hb4 F3 BX3 d0 d1 d2 d3 d4 d5 d6 d7 d8
        obtain ⟨d0, d1, d2, d3, d4, d5, d6, d7, d8⟩ := BX4.out.1
        go_wp2_with fail
        refine (planLast x.e x.es W4 F4.out.2.2.2.1.at'.e F4.out.2.2.2.1.small.e (fun e he => (F4.out.2.2.2.1.small.en e he).1)).mono ?_
        rintro e W5 ⟨⟨na, nl, nc⟩, nn, bl, LL, rfl, hLI⟩
        have hnl : nl = nn.length := (strs_of_own hLI.own).len
        subst hnl
        have hb5 := hLI.bel
        have NL : Hid (StrsAt W5 ⟨na, nn.length, nc⟩ nn ∧ MapIs Try.prog W5 9 bl LL ∧ LL.map (·.1) = nn.map Value.string ∧ LastMap x.es LL) := ⟨strs_of_own hLI.own, hLI.map, hLI.keys, hLI.last⟩
        clear hLI
        have F5 : Hid (StateIs W5 b S ∧ StateIs W5 b1 S1 ∧ StateIs W5 b2 S2 ∧ x.Fine W5 w2.heap.size ∧ Won W5 b S S1 x m v1 ts ∧ StrsAt W5 v2 ts) :=
          ⟨MapIs.below F4.out.1 hb5, MapIs.below F4.out.2.1 hb5, MapIs.below F4.out.2.2.1 hb5, F4.out.2.2.2.1.below hb5, F4.out.2.2.2.2.1.below hb5, F4.out.2.2.2.2.2.below hb5⟩
        have BX5 : Hid (BoxAt W5 Bq x ∧ Below w6.heap.size w6 W5) := ⟨BX4.out.1.below hb5, BX4.out.2.trans (hb5.mono BX4.out.2.size)⟩
        clear hb5 F4 BX4 d0 d1 d2 d3 d4 d5 d6 d7 d8
        obtain ⟨d0, d1, d2, d3, d4, d5, d6, d7, d8⟩ := BX5.out.1
        have E5 : Hid (Ends W5 m x bl nn) := ends F5.out.2.2.2.2.1.e NL.out.2.1 NL.out.2.2.1 NL.out.2.2.2
        have el := E5.out.len
        have en := E5.out.nil
        have es := Lib.run_eql_slice_nil (P := Try.prog) W5 32 50 x.e.a x.e.l x.e.c 0 0 Try.underlying32
        have hnn : nn.length ≤ 1048576 := Nat.le_trans E5.out.le F5.out.2.2.2.1.small.e
        simp only
        go_wp2_with fail
        go_loop [19] (fun i => ∃ j : Nat, j ≤ nn.length ∧ i = .int .i64 j) (fun i => nn.length - (intOf i).toNat)
        case atStart => exact ⟨0, Nat.zero_le _, rfl⟩
        case round =>
          obtain ⟨j, hj, rfl⟩ := hrel
          by_cases hjlt : j < nn.length
          · obtain ⟨y, hy, l1, l2⟩ := E5.out.look j hjlt
            obtain ⟨b9, off9, e9, c9⟩ := NL.out.1.cell j hjlt
            simp only at e9
            subst e9
            go_wp2_with fail
            refine (same_bytes y.b y.xs W5 (F5.out.2.2.2.1.at'.e.body y hy) (F5.out.2.2.2.1.eb y hy).plain).mono ?_
            rintro e W' ⟨rfl, hW⟩
            obtain rfl : W5 = W' := hW.symm
            clear hW
            go_wp2_with fail
            go_round
            case rel => exact ⟨j + 1, by omega, by go_num⟩
            case measure => simp [intOf]; omega
          · have NL5 : Hid (StrsAt W5 ⟨na, nn.length, nc⟩ nn ∧ MapIs Try.prog W5 9 bl LL ∧ LL.map (·.1) = nn.map Value.string ∧ LastMap x.es LL) := NL.out
            clear NL el en es E5
            go_wp2_with fail
            have hent2 : Calls Try.prog 10 #[.map (some b2), .string x.p, .int .i64 x.q, .string x.n] W5 (fun e w' => e = .returned (.tuple #[.bool true, .slice x.b.a x.b.l x.b.c, .slice x.o.a x.o.l x.o.c, .map m, .slice x.r.a x.r.l x.r.c, .bool true, .slice v2.a v2.l v2.c]) ∧ Below W5.heap.size W5 w') :=
              entry_hit b2 x.pl (((x.co m).doubt v1).doubt v2) S2 W5 F5.out.2.2.1 M.out
            refine hent2.mono ?_
            rintro e W6 ⟨rfl, hb6⟩
            clear hent2
            have F6 : Hid (StateIs W6 b S ∧ StateIs W6 b1 S1 ∧ StateIs W6 b2 S2 ∧ x.Fine W6 w2.heap.size ∧ Won W6 b S S1 x m v1 ts ∧ StrsAt W6 v2 ts) :=
              ⟨MapIs.below F5.out.1 hb6, MapIs.below F5.out.2.1 hb6, MapIs.below F5.out.2.2.1 hb6, F5.out.2.2.2.1.below hb6, F5.out.2.2.2.2.1.below hb6, F5.out.2.2.2.2.2.below hb6⟩
            have BX6 : Hid (BoxAt W6 Bq x ∧ Below w6.heap.size w6 W6) := ⟨BX5.out.1.below hb6, BX5.out.2.trans (hb6.mono BX5.out.2.size)⟩
            have NL6 : Hid (StrsAt W6 ⟨na, nn.length, nc⟩ nn ∧ MapIs Try.prog W6 9 bl LL ∧ LL.map (·.1) = nn.map Value.string ∧ LastMap x.es LL) := ⟨NL5.out.1.below hb6, NL5.out.2.1.below hb6, NL5.out.2.2.1, NL5.out.2.2.2⟩
            clear hb6 F5 BX5 NL5 d0 d1 d2 d3 d4 d5 d6 d7 d8
            obtain ⟨d0, d1, d2, d3, d4, d5, d6, d7, d8⟩ := BX6.out.1
            go_wp2_with fail
            refine (same_bytes x.b x.bs W6 F6.out.2.2.2.1.at'.b F6.out.2.2.2.1.b.plain).mono ?_
            rintro e W' ⟨rfl, hW⟩
            obtain rfl : W6 = W' := hW.symm
            clear hW
            go_wp2_with fail
            refine (same_bytes x.o x.os W6 F6.out.2.2.2.1.at'.o F6.out.2.2.2.1.o.plain).mono ?_
            rintro e W' ⟨rfl, hW⟩
            obtain rfl : W6 = W' := hW.symm
            clear hW
            go_wp2_with fail
            refine (same_strs x.r x.rs W6 F6.out.2.2.2.1.at'.r (by have := F6.out.2.2.2.1.small.r; omega)).mono ?_
            rintro e W7 ⟨rfl, hb7⟩
            have F7 : Hid (StateIs W7 b S ∧ StateIs W7 b1 S1 ∧ StateIs W7 b2 S2 ∧ x.Fine W7 w2.heap.size ∧ Won W7 b S S1 x m v1 ts ∧ StrsAt W7 v2 ts) :=
              ⟨MapIs.below F6.out.1 hb7, MapIs.below F6.out.2.1 hb7, MapIs.below F6.out.2.2.1 hb7, F6.out.2.2.2.1.below hb7, F6.out.2.2.2.2.1.below hb7, F6.out.2.2.2.2.2.below hb7⟩
            have BX7 : Hid (BoxAt W7 Bq x ∧ Below w6.heap.size w6 W7) := ⟨BX6.out.1.below hb7, BX6.out.2.trans (hb7.mono BX6.out.2.size)⟩
            have NL7 : Hid (StrsAt W7 ⟨na, nn.length, nc⟩ nn ∧ MapIs Try.prog W7 9 bl LL ∧ LL.map (·.1) = nn.map Value.string ∧ LastMap x.es LL) := ⟨NL6.out.1.below hb7, NL6.out.2.1.below hb7, NL6.out.2.2.1, NL6.out.2.2.2⟩
            clear hb7 F6 BX6 NL6 d0 d1 d2 d3 d4 d5 d6 d7 d8
            obtain ⟨d0, d1, d2, d3, d4, d5, d6, d7, d8⟩ := BX7.out.1
            go_wp2_with fail
            refine (same_list v2 v1 ts W7 F7.out.2.2.2.2.2 F7.out.2.2.2.2.1.s1 F7.out.2.2.2.2.1.u.len).mono ?_
            rintro e W8 ⟨rfl, hb8⟩
            have F8 : Hid (StateIs W8 b S ∧ StateIs W8 b1 S1 ∧ StateIs W8 b2 S2 ∧ x.Fine W8 w2.heap.size ∧ Won W8 b S S1 x m v1 ts ∧ StrsAt W8 v2 ts) :=
              ⟨MapIs.below F7.out.1 hb8, MapIs.below F7.out.2.1 hb8, MapIs.below F7.out.2.2.1 hb8, F7.out.2.2.2.1.below hb8, F7.out.2.2.2.2.1.below hb8, F7.out.2.2.2.2.2.below hb8⟩
            have BX8 : Hid (BoxAt W8 Bq x ∧ Below w6.heap.size w6 W8) := ⟨BX7.out.1.below hb8, BX7.out.2.trans (hb8.mono BX7.out.2.size)⟩
            have NL8 : Hid (StrsAt W8 ⟨na, nn.length, nc⟩ nn ∧ MapIs Try.prog W8 9 bl LL ∧ LL.map (·.1) = nn.map Value.string ∧ LastMap x.es LL) := ⟨NL7.out.1.below hb8, NL7.out.2.1.below hb8, NL7.out.2.2.1, NL7.out.2.2.2⟩
            clear hb8 F7 BX7 NL7 d0 d1 d2 d3 d4 d5 d6 d7 d8
            obtain ⟨d0, d1, d2, d3, d4, d5, d6, d7, d8⟩ := BX8.out.1
            have E8 : Hid (Ends W8 m x bl nn) := ends F8.out.2.2.2.2.1.e NL8.out.2.1 NL8.out.2.2.1 NL8.out.2.2.2
            have el := E8.out.len
            have en := E8.out.nil
            go_wp2_with fail
            go_loop [29] (fun i => ∃ j : Nat, j ≤ nn.length ∧ i = .int .i64 j) (fun i => nn.length - (intOf i).toNat)
            case atStart => exact ⟨0, Nat.zero_le _, rfl⟩
            case round =>
              obtain ⟨j8, hj8, rfl⟩ := hrel
              by_cases hj8lt : j8 < nn.length
              · obtain ⟨y, hy, l1, l2⟩ := E8.out.look j8 hj8lt
                obtain ⟨b9, off9, e9, c9⟩ := NL8.out.1.cell j8 hj8lt
                simp only at e9
                subst e9
                go_wp2_with fail
                refine (same_bytes y.b y.xs W8 (F8.out.2.2.2.1.at'.e.body y hy) (F8.out.2.2.2.1.eb y hy).plain).mono ?_
                rintro e W' ⟨rfl, hW⟩
                obtain rfl : W8 = W' := hW.symm
                clear hW
                go_wp2_with fail
                go_round
                case rel => exact ⟨j8 + 1, by omega, by go_num⟩
                case measure => simp [intOf]; omega
              · clear el en E8
                go_wp2_with fail
                have hent3 : Calls Try.prog 10 #[.map (some b), .string x.p, .int .i64 x.q, .string x.n] W8 (fun e w' => e = .returned (.tuple #[.bool true, .slice x.b.a x.b.l x.b.c, .slice x.o.a x.o.l x.o.c, .map m, .slice x.r.a x.r.l x.r.c, .bool x.d, .slice x.de.a x.de.l x.de.c]) ∧ Below W8.heap.size W8 w') :=
                  entry_hit b x.pl (x.co m) S W8 F8.out.1 F8.out.2.2.2.2.1.i0
                refine hent3.mono ?_
                rintro e W9 ⟨rfl, hb9⟩
                clear hent3
                have F9 : Hid (StateIs W9 b S ∧ StateIs W9 b1 S1 ∧ StateIs W9 b2 S2 ∧ x.Fine W9 w2.heap.size ∧ Won W9 b S S1 x m v1 ts ∧ StrsAt W9 v2 ts) :=
                  ⟨MapIs.below F8.out.1 hb9, MapIs.below F8.out.2.1 hb9, MapIs.below F8.out.2.2.1 hb9, F8.out.2.2.2.1.below hb9, F8.out.2.2.2.2.1.below hb9, F8.out.2.2.2.2.2.below hb9⟩
                have BX9 : Hid (BoxAt W9 Bq x ∧ Below w6.heap.size w6 W9) := ⟨BX8.out.1.below hb9, BX8.out.2.trans (hb9.mono BX8.out.2.size)⟩
                have NL9 : Hid (StrsAt W9 ⟨na, nn.length, nc⟩ nn ∧ MapIs Try.prog W9 9 bl LL ∧ LL.map (·.1) = nn.map Value.string ∧ LastMap x.es LL) := ⟨NL8.out.1.below hb9, NL8.out.2.1.below hb9, NL8.out.2.2.1, NL8.out.2.2.2⟩
                clear hb9 F8 BX8 NL8 d0 d1 d2 d3 d4 d5 d6 d7 d8
                obtain ⟨d0, d1, d2, d3, d4, d5, d6, d7, d8⟩ := BX9.out.1
                go_wp2_with fail
                refine (same_strs x.de x.ds W9 F9.out.2.2.2.1.at'.de (by have := F9.out.2.2.2.1.small.de; omega)).mono ?_
                rintro e W10 ⟨rfl, hb10⟩
                have R10 : Hid (Below w6.heap.size w6 W10) := BX9.out.2.trans (hb10.mono BX9.out.2.size)
                clear hb10
                go_wp2_with fail
                go_roundw
                case rel => exact ⟨k + 1, by omega, by go_num, R10.out⟩
                case measure => simp [intOf]; omega
    · go_wp2
      go_ret
      exact ⟨rfl, HT.out.2.trans (hb.mono HT.out.2.size)⟩
end Go.Proofs.Qxb6632526a
