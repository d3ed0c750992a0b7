import Derived.Test.Qxb6605264aMem
namespace Go.Proofs.Qxb6605264a
open Go.RowKit
theorem fit_u32 {n : Int} (h : (Lit.int .u32 n).wf = true) : 0 ≤ n ∧ n < 4294967296 := by
  simp [Lit.wf, IntKind.min, IntKind.max, IntKind.bits, IntKind.signed] at h
  omega
theorem fits_open {k : IntKind} {zs : List Int} {len cap : Nat} (hl : len ≤ cap) (hz : zs.length = cap) (hwz : ∀ n ∈ zs, (Lit.int k n).wf = true) : ∀ i, i < len → (Lit.int k (zs.getD i 0)).wf = true := fun i hi => by
  have h : i < zs.length := by omega
  rw [List.getD_eq_getElem?_getD, List.getElem?_eq_getElem h]
  exact hwz _ (List.getElem_mem h)
end Go.Proofs.Qxb6605264a
