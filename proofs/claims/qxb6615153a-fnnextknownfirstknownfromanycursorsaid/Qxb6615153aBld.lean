import Derived.Test.Qxb6615153aMk
namespace Go.Proofs.Qxb6615153a
open Go.RowKit
set_option linter.unusedVariables false
set_option linter.unusedSimpArgs false

/-- k leaves are built -/
structure Bld (w0 : World) (ls : List (List Nat)) (r gN gI B k : Nat) (w : World) : Prop where
  bel : Below w0.heap.size w0 w
  size : B ≤ w.heap.size
  lo : w0.heap.size ≤ gN ∧ w0.heap.size ≤ gI ∧ gN < B ∧ gI < B ∧ gN ≠ gI
  nil : ∀ j, k ≤ j → j < ls.length → w.cell? ⟨gN, j, none⟩ = some (.pointer none)
  nilF : ∀ j, w.frozen? ⟨gN, j, none⟩ = false
  nilI : ∀ j, k ≤ j → j < ls.length → w.cell? ⟨gI, j, none⟩ = some (.slice none 0 0)
  nilIF : ∀ j, w.frozen? ⟨gI, j, none⟩ = false
  leaf : ∀ j m, j < k → ls[j]? = some m → ∃ nb it aM cM aI cI ib, w.cell? ⟨gN, j, none⟩ = some (.pointer (some ⟨nb, 0, none⟩)) ∧ LeafIs w r B gI j m (fun s => (s : Int)) nb none it aM cM aI cI ib

theorem own_cell {w : World} {base e n : Nat} {v : Value} {xs : List Value} (h : w.ownsRow base e 1 v n xs) (hn : 0 < n) : ∃ g c, v = .slice (some ⟨g, 0, none⟩) n c ∧ base ≤ g ∧ ∀ (i : Nat) (u : Value), xs[i]? = some u → w.cell? ⟨g, i, none⟩ = some u := by
  have hl := h.1
  rcases h.2 with ⟨_, h0⟩ | ⟨g, cap, cur, rfl, hg, r⟩
  · omega
  · refine ⟨g, cap, rfl, hg, fun i u hi => ?_⟩
    have := (List.getElem?_eq_some_iff.1 hi).1
    rw [h.cellAt i (by omega)]; exact hi

/-- the leaf that is made becomes the k-th -/
theorem bld_step {w0 wr wq : World} {ls : List (List Nat)} {r gN gI B k g gS : Nat} {m : List Nat} {it : Nat → Nat} {vM vI : Value} (h : Bld w0 ls r gN gI B k wr) (hm : ls[k]? = some m) (hf : Fit m) (hb : Below wr.heap.size wr wq)
    (hk : Mk wq r B g gS k m m.length m.length it vM vI) (hg : wr.heap.size ≤ g) :
    Bld w0 ls r gN gI B (k + 1) ((wq.setCell ⟨gN, k, none⟩ (.pointer (some ⟨g, 0, none⟩))).setCell ⟨gI, k, none⟩ (.slice (some ⟨gS, 0, none⟩) m.length m.length)) := by
  have hkl : k < ls.length := (List.getElem?_eq_some_iff.1 hm).1
  obtain ⟨l1, l2, l3, l4, l5⟩ := h.lo
  have hsz := h.size
  have hsz2 := hb.size
  have cN : wq.cell? ⟨gN, k, none⟩ = some (.pointer none) := (hb.cell (by show gN < _; omega)).trans (h.nil k (Nat.le_refl _) hkl)
  have cI : wq.cell? ⟨gI, k, none⟩ = some (.slice none 0 0) := (hb.cell (by show gI < _; omega)).trans (h.nilI k (Nat.le_refl _) hkl)
  have cI' : (wq.setCell ⟨gN, k, none⟩ (.pointer (some ⟨g, 0, none⟩))).cell? ⟨gI, k, none⟩ = some (.slice none 0 0) := cell_set_ne cI (by simp <;> omega)
  have s1 := stays_set (v := .pointer (some ⟨g, 0, none⟩)) cN (.inl rfl)
  have s2 := stays_set (v := .slice (some ⟨gS, 0, none⟩) m.length m.length) cI' (.inr (.inl rfl))
  have hgB : B ≤ g := Nat.le_trans hsz hg
  have far : ∀ (b o : Nat) (u : Value), wq.cell? ⟨b, o, none⟩ = some u → B ≤ b → ((wq.setCell ⟨gN, k, none⟩ (.pointer (some ⟨g, 0, none⟩))).setCell ⟨gI, k, none⟩ (.slice (some ⟨gS, 0, none⟩) m.length m.length)).cell? ⟨b, o, none⟩ = some u := fun b o u h1 h2 =>
    cell_set_ne (cell_set_ne h1 (by simp <;> omega)) (by simp <;> omega)
  have frz : ∀ q, wq.frozen? q = false → ((wq.setCell ⟨gN, k, none⟩ (.pointer (some ⟨g, 0, none⟩))).setCell ⟨gI, k, none⟩ (.slice (some ⟨gS, 0, none⟩) m.length m.length)).frozen? q = false := fun q hq => by
    rw [World.frozen?_setCell, World.frozen?_setCell]; exact hq
  have both : ∀ q u, wq.cell? q = some u → u ≠ .pointer none → u ≠ .slice none 0 0 → (∀ z, u = .int .i32 z → q.off = 2) → ((wq.setCell ⟨gN, k, none⟩ (.pointer (some ⟨g, 0, none⟩))).setCell ⟨gI, k, none⟩ (.slice (some ⟨gS, 0, none⟩) m.length m.length)).cell? q = some u :=
    fun q u h1 h2 h3 h4 => s2.1 q u (s1.1 q u h1 h2 h3 h4) h2 h3 h4
  refine ⟨?_, ?_, h.lo, ?_, ?_, ?_, ?_, ?_⟩
  · exact (((h.bel.trans (hb.mono h.bel.size)).setCell (by show _ ≤ gN; exact l1) _).setCell (by show _ ≤ gI; exact l2) _)
  · simp [World.setCell]; omega
  · intro j h1 h2
    exact cell_set_ne (cell_set_ne ((hb.cell (by show gN < _; omega)).trans (h.nil j (by omega) h2)) (by simp <;> omega)) (by simp <;> omega)
  · intro j
    exact frz _ ((hb.frozen (by show gN < _; omega)).trans (h.nilF j))
  · intro j h1 h2
    exact cell_set_ne (cell_set_ne ((hb.cell (by show gI < _; omega)).trans (h.nilI j (by omega) h2)) (by simp <;> omega)) (by simp <;> omega)
  · intro j
    exact frz _ ((hb.frozen (by show gI < _; omega)).trans (h.nilIF j))
  · intro j m' hj hm'
    by_cases e : j = k
    · subst e
      rw [hm] at hm'
      obtain rfl := Option.some.inj hm'
      obtain ⟨aM, cM, hvM, bM, cellM⟩ := own_cell hk.ownM hf.pos
      obtain ⟨aI, cI2, hvI, bI, cellI⟩ := own_cell hk.ownI hf.pos
      subst hvM
      subst hvI
      obtain ⟨n8, n9, n10, nF⟩ := hk.nd.cells
      have hgS : B ≤ gS ∨ True := .inr trivial
      refine ⟨g, it, aM, cM, aI, cI2, gS, ?_, ⟨hgB, far _ _ _ n8 hgB, ?_, far _ _ _ n9 hgB, ?_, far _ _ _ n10 hgB, frz _ (nF 10), ?_, ?_, hk.itB, ?_⟩⟩
      · exact cell_set_ne (World.cell?_setCell_same _ _ _ cN) (by simp <;> omega)
      · intro i hi
        refine far _ _ _ (cellM i _ ?_) bM
        rw [List.getElem?_map, List.getElem?_take, if_pos hi, List.getElem?_eq_getElem hi]
        simp [hi]
      · intro s hs
        refine far _ _ _ (cellI s _ ?_) bI
        simp [hs]
      · exact World.cell?_setCell_same _ _ _ cI'
      · intro s hs
        have := hk.row.cell hs
        rw [if_pos hs] at this
        exact both _ _ this (by simp) (by simp) (by simp)
      · intro s hs
        have hi := (hk.items s hs).it
        have hB := hk.itB s hs
        exact ⟨far _ _ _ hi.1 hB, far _ _ _ hi.2.1 hB, far _ _ _ hi.2.2.1 hB, frz _ hi.2.2.2⟩
    · obtain ⟨nb, it', aM, cM, aI, cI2, ib, hc, hleaf⟩ := h.leaf j m' (by omega) hm'
      have hleaf := hleaf.below hb (Nat.le_refl _)
      have hc := (hb.cell (World.block_lt_of_cell? wr _ hc)).trans hc
      refine ⟨nb, it', aM, cM, aI, cI2, ib, both _ _ hc (by simp) (by simp) (by simp), ?_⟩
      exact hleaf.carry ⟨both, fun q u _ hq => frz q hq⟩ (far _ _ _ hleaf.next hleaf.nbB) (fun s hs => far _ _ _ (hleaf.itI s hs).2.2.1 (hleaf.itB s hs))

/-- all leaves are built: the functions are chosen -/
theorem bld_done {w0 w : World} {ls : List (List Nat)} {r gN gI B : Nat} (h : Bld w0 ls r gN gI B ls.length w) : ∃ nb it, LayK w ls r B gN gI 0 (fun _ s => (s : Int)) nb it := by
  have h1 : ∀ j, ∃ p : Nat × (Nat → Nat), ∀ m, ls[j]? = some m → w.cell? ⟨gN, j, none⟩ = some (.pointer (some ⟨p.1, 0, none⟩)) ∧ ∃ aM cM aI cI ib, LeafIs w r B gI j m (fun s => (s : Int)) p.1 none p.2 aM cM aI cI ib := by
    intro j
    by_cases hj : j < ls.length
    · obtain ⟨nb, it, aM, cM, aI, cI, ib, h2, h3⟩ := h.leaf j ls[j] hj (by simp [hj])
      refine ⟨(nb, it), fun m hm => ?_⟩
      have : m = ls[j] := by simpa [hj] using hm.symm
      subst this
      exact ⟨h2, aM, cM, aI, cI, ib, h3⟩
    · exact ⟨(0, fun _ => 0), fun m hm => absurd (List.getElem?_eq_some_iff.1 hm).1 hj⟩
  refine ⟨fun j => (Classical.choose (h1 j)).1, fun j => (Classical.choose (h1 j)).2, fun j m hm => ?_⟩
  have := Classical.choose_spec (h1 j) m hm
  simpa using this

end Go.Proofs.Qxb6615153a
