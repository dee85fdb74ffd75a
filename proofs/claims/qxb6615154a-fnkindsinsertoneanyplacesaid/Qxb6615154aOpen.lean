import Derived.Test.Qxb6615154aEv
import Derived.ProofKit
namespace Go.Proofs.Qxb6615154a
open Go.RowKit

theorem erow_of {W : World} {a : Addr} {len m : Nat} (hl : len ≤ m) (h : ∀ i, i < m → ∃ s t : ByteArray, W.cell? (a.add (i * 2)) = some (.string s) ∧ W.cell? (a.add (i * 2 + 1)) = some (.string t) ∧ s.size ≤ maxLen ∧ t.size ≤ maxLen) :
    ∃ ps, ERow W (some a) len ps := by
  have h1 : ∀ i, ∃ p : ByteArray × ByteArray, i < m → W.cell? (a.add (i * 2)) = some (.string p.1) ∧ W.cell? (a.add (i * 2 + 1)) = some (.string p.2) ∧ p.1.size ≤ maxLen ∧ p.2.size ≤ maxLen := by
    intro i
    by_cases hi : i < m
    · obtain ⟨s, t, h2⟩ := h i hi
      exact ⟨(s, t), fun _ => h2⟩
    · exact ⟨(ByteArray.empty, ByteArray.empty), fun h => absurd h hi⟩
  obtain ⟨F, hf⟩ : ∃ F : Nat → ByteArray × ByteArray, ∀ i, i < m → W.cell? (a.add (i * 2)) = some (.string (F i).1) ∧ W.cell? (a.add (i * 2 + 1)) = some (.string (F i).2) ∧ (F i).1.size ≤ maxLen ∧ (F i).2.size ≤ maxLen := ⟨fun i => Classical.choose (h1 i), fun i => Classical.choose_spec (h1 i)⟩
  clear h1
  refine ⟨(List.range len).map F, by simp, ?_, ?_⟩
  · intro p hp
    obtain ⟨i, hi, rfl⟩ := List.mem_map.1 hp
    have hi' := List.mem_range.1 hi
    exact (hf i (by omega)).2.2
  · by_cases h0 : len = 0
    · exact .inl h0
    · right
      obtain ⟨b, off, spot⟩ := a
      have hs : spot = none := by simpa [Addr.add] using World.cell?_spot (hf 0 (by omega)).1
      subst hs
      refine ⟨b, off, rfl, ?_, fun i p hp => ?_⟩
      · have := (hf 0 (by omega)).1
        exact World.block_lt_of_cell? W _ this
      · rw [List.getElem?_map] at hp
        have hi : i < len := by
          rcases Nat.lt_or_ge i len with h | h
          · exact h
          · rw [List.getElem?_eq_none (by simpa using h)] at hp; cases hp
        rw [List.getElem?_range hi] at hp
        simp at hp
        subst hp
        obtain ⟨h2, h3, _⟩ := hf i (by omega)
        rw [Addr.add_lit] at h2 h3
        exact ⟨h2, by rw [Nat.add_assoc]; exact h3⟩

end Go.Proofs.Qxb6615154a
