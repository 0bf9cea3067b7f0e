import Derived.Test.Qxb6632421aCutALt
import Derived.Test.Qxb6632421aCutBLt
import Derived.Test.Qxb6632421aCutCLt
import Derived.Test.Qxb6632421aCutAEq
import Derived.Test.Qxb6632421aCutBEq
import Derived.Test.Qxb6632421aCutCEq
namespace Go.Proofs.Qxb6632421a
open Go.RowKit

/-- the law inside its bounds, for a slice whose cells are known to its length -/
theorem cut_all (a : Option Addr) (len cap : Nat) (f : Nat → UInt8) (s : ByteArray) (c : Nat) (w : World) (hl : len ≤ 524288) (hs : s.size ≤ 524288) (hlc : len ≤ cap) (hcap : cap ≤ 9223372036854775807)
    (ha : 0 < cap → ∃ b off, a = some ⟨b, off, none⟩) (hc : ∀ i, i < len → ∃ b off, a = some ⟨b, off, none⟩ ∧ w.cell? ⟨b, off + i, none⟩ = some (.int .u8 (f i).toNat)) (hcl : c ≤ len) :
    Calls Try.prog 3 #[.slice a len cap, .string s, .int .i64 c] w fun e w' => e = .returned (.bool true) ∧ Below w.heap.size w w' := by
  by_cases hcc : c < cap
  · obtain ⟨b, off, rfl⟩ := ha (by omega)
    have hc' : ∀ i, i < len → w.cell? ⟨b, off + i, none⟩ = some (.int .u8 (f i).toNat) := by
      intro i hi
      obtain ⟨b', off', e, h⟩ := hc i hi
      simp only [Option.some.injEq, Addr.mk.injEq] at e
      obtain ⟨rfl, rfl, _⟩ := e
      exact h
    by_cases hsc : s.size < c
    · have hg : eqB f len s = false := eqB_len (by omega)
      exact cutALt b off len cap f s c w hl hs hcap (by omega) hc' hcl hcc hsc (eqB_len (by omega)) hg ((want_eq f len s).trans hg)
    · cases h : eqB f c (s.extract 0 c)
      · have hg := eqB_cut_no hcl h
        exact cutBLt b off len cap f s c w hl hs hcap (by omega) hc' hcl hcc (by omega) h hg ((want_eq f len s).trans hg)
      · exact cutCLt b off len cap f s c w hl hs hcap (by omega) hc' hcl hcc _ (by omega) h (eqB_cut_yes hcl h) rfl (want_eq f len s)
  · obtain rfl : c = len := by omega
    obtain rfl : cap = c := by omega
    by_cases hsc : s.size < cap
    · have hg : eqB f cap s = false := eqB_len (by omega)
      exact cutAEq a f s cap w hl hs hc hsc hg hg ((want_eq f cap s).trans hg)
    · cases h : eqB f cap (s.extract 0 cap)
      · have hg := eqB_cut_no hcl h
        exact cutBEq a f s cap w hl hs hc (by omega) h hg ((want_eq f cap s).trans hg)
      · have hr := eqB_cut_yes hcl h
        rw [Nat.sub_self] at hr
        exact cutCEq a f s cap w hl hs hc _ (by omega) h hr rfl (want_eq f cap s)

/-- a byte out of a well-formed number -/
theorem byte_of {z : Int} (h : (Lit.int .u8 z).wf = true) : z = ((UInt8.ofNat z.toNat).toNat : Int) := by
  simp [Lit.wf, IntKind.min, IntKind.max, IntKind.signed, IntKind.bits] at h
  simp
  omega
end Go.Proofs.Qxb6632421a
