/- the endpoints' map beside planLast's -/
import Derived.Test.Qxb6632526aTop2
import Derived.WalkSpells
namespace Go.Proofs.Qxb6632526a
open Go.RowKit Go.Maps

structure Ends (W : World) (m : Option Nat) (x : Ob) (bl : Nat) (nn : List ByteArray) : Prop where
  len : ∀ ty, (Builtin.len_ #[36] ty #[.map m]).run Try.prog W = .ok (.int .i64 (nn.length : Nat)) W
  nil : (binOp .eql 36 (.map m) (.map none)).run Try.prog W = .ok (.bool x.e.a.isNone) W
  look : ∀ k, (h : k < nn.length) → ∃ y ∈ x.es, (Instr.lookup 36 (.map m) (.string nn[k]) true).run Try.prog W = .ok (.tuple #[.slice y.b.a y.b.l y.b.c, .bool true]) W ∧ (Instr.lookup 42 (.map (some bl)) (.string nn[k]) false).run Try.prog W = .ok (.slice y.b.a y.b.l y.b.c) W
  le : nn.length ≤ x.es.length

theorem ends {W : World} {b : Nat} {m : Option Nat} {x : Ob} {bl : Nat} {LL : List (Value × Value)} {nn : List ByteArray} (he : EndMap W b m x) (hl : MapIs Try.prog W 9 bl LL) (hk : LL.map (·.1) = nn.map Value.string) (hlast : LastMap x.es LL) : Ends W m x bl nn := by
  have hnl : nn.length = LL.length := by simpa using (congrArg List.length hk).symm
  have hle : nn.length ≤ x.es.length := by
    have := nodup_le (l := LL.map (·.1)) (m := x.es.map fun e => Value.string e.n) hl.nodup fun k hkm => by
      obtain ⟨e, h, e2⟩ := (hlast.keys k).1 hkm
      exact List.mem_map.2 ⟨e, h, e2.symm⟩
    simp at this
    omega
  rcases he with ⟨rfl, hea, hes⟩ | ⟨bm, LM, rfl, hea, _, hm, hlm⟩
  · rw [hes] at hle
    have h0 : nn.length = 0 := by simpa using hle
    refine ⟨fun ty => ?_, ?_, fun k hk => absurd hk (by omega), by omega⟩
    · rw [h0]
      simp [Builtin.len_, run_underlying Try.underlying36, goInt, Result.andThen]
    · rw [run_eql_map_nil W 36 9 _ none Try.underlying36, hea]
      rfl
  · refine ⟨fun ty => ?_, ?_, fun k hkl => ?_, hle⟩
    · rw [MapIs.len hm Try.underlying36, hnl, hlm.length hlast hm.nodup hl.nodup]
    · rw [run_eql_map_nil W 36 9 _ (some bm) Try.underlying36, hea]
      rfl
    · have hin : Value.string nn[k] ∈ LL.map (·.1) := by
        rw [hk]
        exact List.mem_map.2 ⟨_, List.getElem_mem hkl, rfl⟩
      obtain ⟨p, hp, e⟩ := List.mem_map.1 hin
      obtain ⟨n, y, hy, rfl⟩ := (hlast p).1 hp
      simp only [Value.string.injEq] at e
      subst e
      exact ⟨y, (lastEp_mem hy).1, MapIs.look_hit hm keyed9 Try.underlying36 ((hlm _).2 ⟨_, _, hy, rfl⟩) true, MapIs.look_hit hl keyed9 Try.underlying42 hp false⟩
end Go.Proofs.Qxb6632526a
