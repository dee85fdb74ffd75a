import Derived.Test.Qxb6615153aBuild
import Derived.Laws.BitsAllLaws
namespace Go.Proofs.Qxb6615153a
open Go.RowKit
set_option linter.unusedVariables false
set_option linter.unusedSimpArgs false

theorem leaf_cells {w : World} {r B gI L : Nat} {m : List Nat} {idx : Nat → Int} {nb : Nat} {nx : Option Addr} {it : Nat → Nat} {aM cM aI cI ib : Nat} (h : LeafIs w r B gI L m idx nb nx it aM cM aI cI ib) (hf : Fit m) (hr : ∀ z ∈ m, z < 4294967296) {i : Nat} (hi : i < m.length) :
    ∃ z : Nat, z < 4294967296 ∧ w.cell? ⟨aM, i, none⟩ = some (.int .u32 (z : Int)) ∧ z / 16777216 < m.length ∧ sl m i = z / 16777216 ∧ w.cell? ⟨aI, z / 16777216, none⟩ = some (.pointer (some ⟨it (sl m i), 0, none⟩)) ∧ m[i]? = some z := by
  have hz : m[i]? = some m[i] := by simp [hi]
  have e := sl_at hz
  have hlt := hf.lt i hi
  refine ⟨m[i], hr _ (List.getElem_mem _), ?_, by omega, e, ?_, hz⟩
  · have := h.mark i hi
    simpa [hi] using this
  · rw [← e]; exact h.item _ hlt

set_option maxHeartbeats 1000000 in
theorem item52 {w : World} {r B gI L : Nat} {m : List Nat} {idx : Nat → Int} {nb : Nat} {nx : Option Addr} {it : Nat → Nat} {aM cM aI cI ib : Nat} (h : LeafIs w r B gI L m idx nb nx it aM cM aI cI ib) (hf : Fit m) (hr : ∀ z ∈ m, z < 4294967296) {i : Nat} (hi : i < m.length) :
    Calls Try.prog 52 #[.pointer (some ⟨nb, 0, none⟩), .int .i64 (i : Int)] w fun e w' => e = .returned (.pointer (some ⟨it (sl m i), 0, none⟩)) ∧ ∃ q, w' = w.drewN q := by
  obtain ⟨z, hz1, c1, hz2, e, c2, _⟩ := leaf_cells h hf hr hi
  have c3 := h.marks
  have c4 := h.items
  have hroom := hf.room
  have i1 : (i : Int) < (m.length : Int) := by omega
  have i2 : (z : Int) / 16777216 < (m.length : Int) := by omega
  have i3 : (0 : Int) ≤ (z : Int) / 16777216 := by omega
  have i4 : ((z : Int) / 16777216).toNat = z / 16777216 := by omega
  have E : Hid _ := e
  clear h hf hr e
  obtain ⟨p, hp⟩ : ∃ p, p = it (sl m i) := ⟨_, rfl⟩
  rw [← hp] at c2 ⊢
  clear hp
  go_enter Try.func52, Try.ntmps52
  go_wp2
  go_quiet ((go_at_call 53; exact Calls.quiet_of_same (slot53 _ _ (by omega) (by omega))))
  go_wp2
  go_ret
  exact ⟨rfl, _, rfl⟩

theorem first51 (g r : Nat) (x y : Int) (w : World) (hi : It w g r x y) :
    Calls Try.prog 51 #[.pointer (some ⟨g, 0, none⟩)] w fun e w' => e = .returned (.agg #[.pointer (some ⟨r, 0, none⟩), .int .i32 x]) ∧ Below w.heap.size w w' := by
  have c1 := hi.1
  have c2 := hi.2.1
  have hg : g < w.heap.size := World.block_lt_of_cell? w _ c1
  clear hi
  go_enter Try.func51, Try.ntmps51
  go_wp2
  go_region
  all_goals go_wp2
  all_goals exact bodyPost_ret (v := .agg #[.pointer (some ⟨r, 0, none⟩), .int .i32 x]) (by simp [results, Try.results51, go_sem]) rfl ⟨rfl, ((Below.refl _ _).alloc (Nat.le_refl _) _).drew⟩


/-- worlds that part in draws alone -/
def Like (w w' : World) : Prop := w'.heap = w.heap ∧ w'.os = w.os ∧ w'.tape = w.tape ∧ w'.output = w.output
theorem below_like {B : Nat} {w w1 w2 : World} (h : Below B w w1) (k : Like w1 w2) : Below B w w2 :=
  ⟨k.2.1.trans h.os, k.2.2.1.trans h.tape, k.2.2.2.trans h.output, by rw [k.1]; exact h.size, by rw [k.1]; exact h.block⟩
theorem Like.below {w w' : World} (k : Like w w') (B : Nat) : Below B w w' := below_like (Below.refl B w) k

/-- the hints with one more set -/
def upd (idx : Nat → Nat → Int) (L s : Nat) (v : Int) : Nat → Nat → Int := fun L' s' => if L' = L ∧ s' = s then v else idx L' s'

theorem LayK.drewN {w : World} {ls : List (List Nat)} {r B gN gI k : Nat} {idx : Nat → Nat → Int} {nb : Nat → Nat} {it : Nat → Nat → Nat} (h : LayK w ls r B gN gI k idx nb it) (q : Nat) : LayK (w.drewN q) ls r B gN gI k idx nb it :=
  h.below (B' := w.heap.size) ⟨rfl, rfl, rfl, Nat.le_refl _, fun _ _ => rfl⟩ (Nat.le_refl _)

theorem LayK.like {w w' : World} {ls : List (List Nat)} {r B gN gI k : Nat} {idx : Nat → Nat → Int} {nb : Nat → Nat} {it : Nat → Nat → Nat} (h : LayK w ls r B gN gI k idx nb it) (q : Like w w') : LayK w' ls r B gN gI k idx nb it :=
  h.below (q.below w.heap.size) (Nat.le_refl _)

theorem LayK.same {w : World} {ls : List (List Nat)} {r B gN gI k : Nat} {idx idx' : Nat → Nat → Int} {nb : Nat → Nat} {it : Nat → Nat → Nat} (h : LayK w ls r B gN gI k idx nb it) (e : ∀ L s, idx L s = idx' L s) : LayK w ls r B gN gI k idx' nb it := by
  have : idx = idx' := funext fun L => funext fun s => e L s
  subst this; exact h

set_option maxHeartbeats 1000000 in
theorem item50 {w : World} {ls : List (List Nat)} {r B gN gI k : Nat} {idx : Nat → Nat → Int} {nb : Nat → Nat} {it : Nat → Nat → Nat} (h : LayK w ls r B gN gI k idx nb it) (hf : ∀ m ∈ ls, Fit m) (hr : ∀ m ∈ ls, ∀ z ∈ m, z < 4294967296) (hB : B ≤ w.heap.size) {L i : Nat} {m : List Nat} (hm : ls[L]? = some m) (hi : i < m.length) :
    Calls Try.prog 50 #[.agg #[.pointer (some ⟨nb L, 0, none⟩), .int .i64 (i : Int)]] w fun e w' => e = .returned (.pointer (some ⟨it L (sl m i), 0, none⟩)) ∧ LayK w' ls r B gN gI k (upd idx L (sl m i) (i : Int)) nb it ∧ Kept (fun b => b = it L (sl m i)) w w' ∧ B ≤ it L (sl m i) ∧ it L (sl m i) < w.heap.size := by
  have hfm := hf m (List.mem_of_getElem? hm)
  have hsl := hfm.lt i hi
  have hroom := hfm.room
  have hb1 : Below w.heap.size w (w.alloc (.cells #[.pointer (some ⟨nb L, 0, none⟩), .int .i64 (i : Int)] 114)) := (Below.refl _ _).alloc (Nat.le_refl _) _
  have h1 := h.below hb1 (Nat.le_refl _)
  obtain ⟨_, aM, cM, aI, cI, ib, hl1⟩ := h1 L m hm
  obtain ⟨_, _, _, _, _, _, hl0⟩ := h L m hm
  have hit := hl0.itI _ hsl
  have hitB := hl0.itB _ hsl
  have c5 := hit.2.2.1
  have f5 := hit.2.2.2
  have hlt5 : it L (sl m i) < w.heap.size := World.block_lt_of_cell? w _ c5
  obtain ⟨p, hp⟩ : ∃ p, p = it L (sl m i) := ⟨_, rfl⟩
  have H1 : Hid _ := h1
  have H52 : Hid _ := item52 hl1 hfm (hr m (List.mem_of_getElem? hm)) hi
  have HST : Hid _ := h1.setIdx hf hm hsl (i : Int)
  have HB1 : Hid _ := hb1
  rw [← hp] at c5 f5 hlt5 hitB H52 HST ⊢
  obtain ⟨y, hy⟩ : ∃ y, y = idx L (sl m i) := ⟨_, rfl⟩
  rw [← hy] at c5
  have HY : Hid _ := hy
  clear h h1 hl1 hl0 hit hb1 hf hr hp hy hfm
  have hw32 : IntKind.i32.wrap (i : Int) = (i : Int) := by rw [IntKind.wrap_i32]; omega
  by_cases d : y = (i : Int)
  · have hq : (y != (i : Int)) = false := by simp [d]
    go_enter Try.func50, Try.ntmps50
    go_wp2_with fail
    refine Calls.mono H52.out ?_
    rintro e w2 ⟨rfl, q, rfl⟩
    go_wp2
    go_quiet (fail)
    go_wp2
    go_ret
    refine ⟨rfl, LayK.like (LayK.same H1.out fun L' s' => ?_) ⟨rfl, rfl, rfl, rfl⟩, ⟨rfl, rfl, rfl, HB1.out.size, fun b hb _ => HB1.out.block b hb⟩, hitB, hlt5⟩
    unfold upd
    by_cases e : L' = L ∧ s' = sl m i
    · rw [if_pos e, e.1, e.2, ← HY.out, d]
    · rw [if_neg e]
  · have hq : (y != (i : Int)) = true := by simp [d]
    go_enter Try.func50, Try.ntmps50
    go_wp2_with fail
    refine Calls.mono H52.out ?_
    rintro e w2 ⟨rfl, q, rfl⟩
    go_wp2
    go_quiet (fail)
    go_wp2
    go_ret
    exact ⟨rfl, LayK.like HST.out ⟨rfl, rfl, rfl, rfl⟩, ⟨rfl, rfl, rfl, by simp [World.setCell], fun b hb hS => (Below.heap_setCell _ ⟨p, 5, none⟩ (.int .i32 (i : Int)) b hS).trans (HB1.out.block b hb)⟩, hitB, hlt5⟩

end Go.Proofs.Qxb6615153a
