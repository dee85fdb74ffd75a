import Derived.Test.Qxb6615153aPlain5
import Derived.ProofKit
namespace Go.Proofs.Qxb6615153a
open Go.RowKit

theorem brow_of {W : World} {a : Addr} {len : Nat} {zs : List Int} (hl : len ≤ zs.length) (hc : ∀ i, i < zs.length → W.cell? (a.add i) = some (.int .u8 (zs.getD i 0))) : BRow W (some a) len (zs.take len) := by
  refine ⟨by simp; omega, ?_⟩
  by_cases h0 : len = 0
  · exact .inl h0
  · obtain ⟨b, off, spot⟩ := a
    have hs : spot = none := by simpa [Addr.add] using World.cell?_spot (hc 0 (by omega))
    subst hs
    refine .inr ⟨b, off, rfl, ?_, fun i hi => ?_⟩
    · have := hc 0 (by omega)
      exact World.block_lt_of_cell? W _ this
    · have := hc i (by omega)
      rw [Addr.add_lit] at this
      rw [this]
      simp [hi]

theorem srow_of {W : World} {a : Addr} {len : Nat} {zs : List ByteArray} (hl : len ≤ zs.length) (hc : ∀ i, i < zs.length → W.cell? (a.add i) = some (.string (zs.getD i ByteArray.empty))) (hm : ∀ s ∈ zs, s.size ≤ maxLen) : SRow W (some a) len (zs.take len) := by
  refine ⟨by simp; omega, fun s hs => hm s (List.mem_of_mem_take hs), ?_⟩
  by_cases h0 : len = 0
  · exact .inl h0
  · obtain ⟨b, off, spot⟩ := a
    have hs : spot = none := by simpa [Addr.add] using World.cell?_spot (hc 0 (by omega))
    subst hs
    refine .inr ⟨b, off, rfl, ?_, fun i hi => ?_⟩
    · have := hc 0 (by omega)
      exact World.block_lt_of_cell? W _ this
    · have := hc i (by omega)
      rw [Addr.add_lit] at this
      rw [this]
      simp [hi]

end Go.Proofs.Qxb6615153a
