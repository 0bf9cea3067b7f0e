import Derived.Test.Qxb6632526aKeys
import Derived.WalkKit
import Derived.ProofKit
import Derived.Deep.OwnRows
import Derived.Deep.QuietTactic
import Derived.BigQuiet
import Derived.WalkLawsBesides
import Derived.Outline
namespace Go.Proofs.Qxb6632526a
open Go.RowKit Go.Maps

theorem newState (w : World) : Calls Try.prog 17 #[] w fun e w' => e = .returned (.map (some w.heap.size)) ∧ w' = w.alloc (.map #[] 0) := by
  have hmm := @run_makeMap Try.prog
  go_enter Try.func17, Try.ntmps17
  go_wp2
  go_ret
  exact ⟨rfl, rfl⟩

theorem newEndpoints (w : World) : Calls Try.prog 30 #[] w fun e w' => e = .returned (.map (some w.heap.size)) ∧ w' = w.alloc (.map #[] 0) := by
  have hmm := @run_makeMap Try.prog
  go_enter Try.func30, Try.ntmps30
  go_wp2
  go_ret
  exact ⟨rfl, rfl⟩

/-- a slice's three words -/
structure SV where
  a : Option Addr
  l : Nat
  c : Nat

def SV.val (s : SV) : Value := .slice s.a s.l s.c
def SV.nil : SV := ⟨none, 0, 0⟩

/-- a place -/
structure Pl where
  p : ByteArray
  q : Int
  n : ByteArray

def Pl.val (x : Pl) : Value := .agg #[.string x.p, .int .i64 x.q, .string x.n]

structure Pl.Ok (x : Pl) : Prop where
  p : x.p.size ≤ maxLen
  n : x.n.size ≤ maxLen
  q : (Lit.int .i64 x.q).wf = true

theorem Pl.Ok.key {x : Pl} (h : x.Ok) : ∃ l, keyOf Try.prog 59 x.val = some l := key_place h.p h.n h.q

theorem Pl.val_inj {x y : Pl} (h : x.val = y.val) : x = y := by
  obtain ⟨p, q, n⟩ := x
  obtain ⟨p', q', n'⟩ := y
  simp [Pl.val] at h
  obtain ⟨rfl, rfl, rfl⟩ := h
  rfl

/-- an object's content: body, own body, endpoints, routes, doubt, doubted endpoints -/
structure Co where
  b : SV
  o : SV
  e : Option Nat
  r : SV
  d : Bool
  de : SV

def Co.val (x : Co) : Value := .agg #[.slice x.b.a x.b.l x.b.c, .slice x.o.a x.o.l x.o.c, .map x.e, .slice x.r.a x.r.l x.r.c, .bool x.d, .slice x.de.a x.de.l x.de.c]

def Co.zero : Co := ⟨.nil, .nil, none, .nil, false, .nil⟩

theorem zero61 (w : World) : (zeroValue 61).run Try.prog w = .ok Co.zero.val w := by rfl

/-- block b is a State with the objects S -/
def StateIs (w : World) (b : Nat) (S : List (Pl × Co)) : Prop := MapIs Try.prog w 59 b (S.map fun p => (p.1.val, p.2.val))

theorem not_key {S : List (Pl × Co)} {x : Pl} (h : x ∉ S.map (·.1)) : x.val ∉ (S.map fun p => (p.1.val, p.2.val)).map (·.1) := by
  intro hm
  simp only [List.map_map, List.mem_map, Function.comp] at hm
  obtain ⟨p, hp, e⟩ := hm
  exact h (List.mem_map.2 ⟨p, hp, Pl.val_inj e⟩)

set_option maxHeartbeats 400000 in
theorem has_miss (b : Nat) (x : Pl) (S : List (Pl × Co)) (w : World) (h : StateIs w b S) (hx : x.Ok) (hm : x ∉ S.map (·.1)) :
    Calls Try.prog 22 #[.map (some b), .string x.p, .int .i64 x.q, .string x.n] w fun e w' => e = .returned (.bool false) ∧ Below w.heap.size w w' := by
  obtain ⟨l, hl⟩ := hx.key
  have hlook := MapIs.look_miss h keyed59 Try.underlying26 (zero61 w) hl (not_key hm) true
  unfold Pl.val Co.val Co.zero SV.nil at hlook
  go_enter Try.func22, Try.ntmps22
  go_wp2
  go_ret
  exact ⟨rfl, (Below.refl _ _).alloc (Nat.le_refl _) _⟩

set_option maxHeartbeats 400000 in
theorem has_hit (b : Nat) (x : Pl) (c : Co) (S : List (Pl × Co)) (w : World) (h : StateIs w b S) (hm : (x, c) ∈ S) :
    Calls Try.prog 22 #[.map (some b), .string x.p, .int .i64 x.q, .string x.n] w fun e w' => e = .returned (.bool true) ∧ Below w.heap.size w w' := by
  have hlook := MapIs.look_hit h keyed59 Try.underlying26 (List.mem_map.2 ⟨_, hm, rfl⟩) true
  unfold Pl.val Co.val at hlook
  go_enter Try.func22, Try.ntmps22
  go_wp2
  go_ret
  exact ⟨rfl, (Below.refl _ _).alloc (Nat.le_refl _) _⟩

set_option maxHeartbeats 400000 in
/-- ZZput at a new place -/
theorem put_new (b : Nat) (x : Pl) (c : Co) (S : List (Pl × Co)) (w : World) (h : StateIs w b S) (hx : x.Ok) (hm : x ∉ S.map (·.1)) :
    Calls Try.prog 29 #[.map (some b), .string x.p, .int .i64 x.q, .string x.n, .slice c.b.a c.b.l c.b.c, .slice c.o.a c.o.l c.o.c, .map c.e, .slice c.r.a c.r.l c.r.c, .bool c.d, .slice c.de.a c.de.l c.de.c] w
      fun e w' => e = .returned (.tuple #[]) ∧ StateIs w' b (S ++ [(x, c)]) ∧ w.grownBy w' (some b) ∧ w'.heap.size = w.heap.size := by
  obtain ⟨l, hl⟩ := hx.key
  obtain ⟨w1, hrun, his, hgr, hsz⟩ := MapIs.store_new (val := c.val) h keyed59 Try.underlying26 hl (not_key hm)
  unfold Pl.val Co.val at hrun
  have H : Hid (StateIs w1 b (S ++ [(x, c)]) ∧ w.grownBy w1 (some b) ∧ w1.heap.size = w.heap.size) := ⟨by unfold StateIs; rw [List.map_append]; exact his, hgr, hsz⟩
  clear his hgr hsz
  go_enter Try.func29, Try.ntmps29
  go_wp2
  go_end0
  exact ⟨rfl, H.out⟩

set_option maxHeartbeats 1000000 in
/-- ZZentry at a place that is there -/
theorem entry_hit (b : Nat) (x : Pl) (c : Co) (S : List (Pl × Co)) (w : World) (h : StateIs w b S) (hm : (x, c) ∈ S) :
    Calls Try.prog 10 #[.map (some b), .string x.p, .int .i64 x.q, .string x.n] w fun e w' =>
      e = .returned (.tuple #[.bool true, .slice c.b.a c.b.l c.b.c, .slice c.o.a c.o.l c.o.c, .map c.e, .slice c.r.a c.r.l c.r.c, .bool c.d, .slice c.de.a c.de.l c.de.c]) ∧ Below w.heap.size w w' := by
  have hlook := MapIs.look_hit h keyed59 Try.underlying26 (List.mem_map.2 ⟨_, hm, rfl⟩) true
  unfold Pl.val Co.val at hlook
  go_enter Try.func10, Try.ntmps10
  go_wp2
  go_quiet (fail)
  go_wp2
  exact bodyPost_ret (v := .tuple #[.bool true, .slice c.b.a c.b.l c.b.c, .slice c.o.a c.o.l c.o.c, .map c.e, .slice c.r.a c.r.l c.r.c, .bool c.d, .slice c.de.a c.de.l c.de.c]) (by simp [results, Try.results10, go_sem]) rfl ⟨rfl, below_drewN ((Below.refl _ _).alloc (Nat.le_refl _) _) _⟩
end Go.Proofs.Qxb6632526a
