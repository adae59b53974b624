import Derived.Test.Qxb6003628aClone
import Derived.OpenShut
namespace Go.Proofs.Qxb6003628a
open Go.RowKit Go.WideShapes

/-- The numbers that came in, as bytes. -/
def dOf (z : List Int) (i : Nat) : Nat := (z.getD i 0).toNat

theorem row_of {w : World} {x : Addr} {len : Nat} {z : List Int} (hl : len ≤ z.length) (hc : ∀ i, i < z.length → w.cell? (x.add i) = some (.int .u8 (z.getD i 0))) (hw : ∀ n ∈ z, (Lit.int .u8 n).wf = true) :
    RowAt w x len (dOf z) ∧ ∀ i, i < len → dOf z i < 256 := by
  have hb : ∀ i, i < len → 0 ≤ z.getD i 0 ∧ z.getD i 0 < 256 := fun i hi => by
    have hi' : i < z.length := by omega
    have := bounds_u8 (hw (z[i]) (List.getElem_mem hi'))
    rw [List.getD_eq_getElem?_getD, List.getElem?_eq_getElem hi']
    simp only [Option.getD_some]
    omega
  refine ⟨fun i hi => ?_, fun i hi => ?_⟩
  · rw [hc i (by omega)]
    exact congrArg some (vint (by have := hb i hi; unfold dOf; omega))
  · have := hb i hi
    unfold dOf
    omega
end Go.Proofs.Qxb6003628a
