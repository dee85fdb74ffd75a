import Derived.Test.Qxb6615804aBld
import Derived.ProofKit
namespace Go.Proofs.Qxb6615804a
open Go.RowKit

theorem crow_of {W : World} {a : Addr} {len m : Nat} {f : Nat → Value} (hl : len ≤ m) (hc : ∀ i, i < m → W.cell? (a.add i) = some (f i)) : CRow W (some a) len f := by
  by_cases h0 : len = 0
  · exact .inl h0
  · obtain ⟨b, off, spot⟩ := a
    have hs : spot = none := by simpa [Addr.add] using World.cell?_spot (hc 0 (by omega))
    subst hs
    refine .inr ⟨b, off, rfl, ?_, fun i hi => ?_⟩
    · exact World.block_lt_of_cell? W _ (hc 0 (by omega))
    · have := hc i (by omega)
      rw [Addr.add_lit] at this
      exact this

theorem u64_row {W : World} {a : Addr} {len : Nat} {zs : List Int} (hl : len ≤ zs.length) (hc : ∀ i, i < zs.length → W.cell? (a.add i) = some (.int .u64 (zs.getD i 0))) (hw : ∀ n ∈ zs, (Lit.int .u64 n).wf = true) :
    CRow W (some a) len (fun i => .int .u64 (((zs.getD i 0).toNat : Nat) : Int)) ∧ ∀ i, i < len → (zs.getD i 0).toNat < 18446744073709551616 := by
  have hb : ∀ i, i < zs.length → 0 ≤ zs.getD i 0 ∧ zs.getD i 0 < 18446744073709551616 := fun i hi => by
    have h1 : zs.getD i 0 = zs[i] := by simp [hi]
    have h2 := hw zs[i] (List.getElem_mem _)
    rw [h1]
    simp [Lit.wf] at h2
    have m1 : IntKind.u64.min = 0 := by decide
    have m2 : IntKind.u64.max = 18446744073709551615 := by decide
    omega
  refine ⟨crow_of hl (fun i hi => ?_), fun i hi => ?_⟩
  · rw [hc i hi]
    have := hb i hi
    congr 2
    omega
  · have := hb i (by omega)
    omega

end Go.Proofs.Qxb6615804a
