import Derived.Test.Qxb6615153aLeaves
import Derived.ProofKit
namespace Go.Proofs.Qxb6615153a
open Go.RowKit

theorem urow_of {W : World} {A : Option Addr} {L C : Nat} {Z : List Int} (hL : L ≤ C) (hz : Z.length = C) (hw : ∀ n ∈ Z, (Lit.int .u32 n).wf = true) (hn : A = none → C = 0)
    (hc : ∀ a', A = some a' → ∀ c, c < C → W.cell? (a'.add c) = some (.int .u32 (Z.getD c 0))) :
    URow W A ((Z.take L).map Int.toNat) ∧ ((Z.take L).map Int.toNat).length = L ∧ ∀ z ∈ (Z.take L).map Int.toNat, z < 4294967296 := by
  have hlen : ((Z.take L).map Int.toNat).length = L := by simp; omega
  have hbd : ∀ n ∈ Z, 0 ≤ n ∧ n < 4294967296 := fun n hn' => by
    have := hw n hn'
    simp [Lit.wf] at this
    have m1 : IntKind.u32.min = 0 := by decide
    have m2 : IntKind.u32.max = 4294967295 := by decide
    omega
  have hall : ∀ z ∈ (Z.take L).map Int.toNat, z < 4294967296 := fun z hz' => by
    obtain ⟨n, hn', rfl⟩ := List.mem_map.1 hz'
    have := hbd n (List.mem_of_mem_take hn')
    omega
  refine ⟨⟨hall, ?_⟩, hlen, hall⟩
  rw [hlen]
  by_cases h0 : L = 0
  · exact .inl h0
  · right
    cases A with
    | none => have := hn rfl; omega
    | some x =>
      obtain ⟨b, off, spot⟩ := x
      have hs : spot = none := by simpa [Addr.add] using World.cell?_spot (hc _ rfl 0 (by omega))
      subst hs
      refine ⟨b, off, rfl, World.block_lt_of_cell? W _ (hc _ rfl 0 (by omega)), fun i hi => ?_⟩
      have h1 := hc _ rfl i (by omega)
      rw [Addr.add_lit] at h1
      rw [h1]
      have h2 : Z.getD i 0 = Z[i]'(by omega) := by simp [show i < Z.length by omega]
      have h3 := hbd (Z[i]'(by omega)) (List.getElem_mem _)
      have h4 : ((Z.take L).map Int.toNat).getD i 0 = (Z[i]'(by omega)).toNat := by
        simp [hi, show i < Z.length by omega]
      rw [h2, h4]
      congr 2
      omega

theorem lrow_of {W : World} {a : Addr} {len cap : Nat} {A : Nat → Option Addr} {L C : Nat → Nat} {Z : Nat → List Int} (hl : len ≤ cap)
    (h : ∀ r, r < cap → W.cell? (a.add r) = some (.slice (A r) (L r) (C r)) ∧ L r ≤ C r ∧ C r ≤ maxLen ∧ (Z r).length = C r ∧ (∀ n ∈ Z r, (Lit.int .u32 n).wf = true) ∧ (A r = none → C r = 0) ∧
        ∀ a', A r = some a' → 0 ≤ a'.block ∧ ∀ c, c < C r → W.cell? (a'.add c) = some (.int .u32 ((Z r).getD c 0))) :
    ∃ ls, LRow W (some a) len ls ∧ ∀ m ∈ ls, ∀ z ∈ m, z < 4294967296 := by
  have hu := fun r (hr : r < cap) => urow_of (W := W) (h r hr).2.1 (h r hr).2.2.2.1 (h r hr).2.2.2.2.1 (h r hr).2.2.2.2.2.1 (fun a' ha' => ((h r hr).2.2.2.2.2.2 a' ha').2)
  refine ⟨(List.range len).map fun r => ((Z r).take (L r)).map Int.toNat, ⟨by simp, ?_, ?_⟩, ?_⟩
  · intro m hm
    obtain ⟨r, hr, rfl⟩ := List.mem_map.1 hm
    have hr' := List.mem_range.1 hr
    have h1 := h r (by omega)
    rw [(hu r (by omega)).2.1]
    omega
  · by_cases h0 : len = 0
    · exact .inl h0
    · right
      obtain ⟨b, off, spot⟩ := a
      have hs : spot = none := by simpa [Addr.add] using World.cell?_spot (h 0 (by omega)).1
      subst hs
      refine ⟨b, off, rfl, World.block_lt_of_cell? W _ (h 0 (by omega)).1, fun r hr => ?_⟩
      have h1 := (h r (by omega)).1
      rw [Addr.add_lit] at h1
      have h2 : ((List.range len).map fun r => ((Z r).take (L r)).map Int.toNat).getD r [] = ((Z r).take (L r)).map Int.toNat := by simp [hr]
      rw [h2]
      refine ⟨A r, C r, ?_, (hu r (by omega)).1⟩
      rw [(hu r (by omega)).2.1]
      exact h1
  · intro m hm
    obtain ⟨r, hr, rfl⟩ := List.mem_map.1 hm
    have hr' := List.mem_range.1 hr
    exact (hu r (by omega)).2.2

end Go.Proofs.Qxb6615153a
