import Derived.Test.Qxb6615804aSearch
import Derived.Deep.RegionHeld3
namespace Go.Proofs.Qxb6615804a
open Go.RowKit
set_option linter.unusedVariables false
set_option linter.unusedSimpArgs false

/-- an allocation as it is told -/
structure Ent where
  h : ByteArray
  t : ByteArray
  v : Nat
  b : Int

/-- an allocation's seven cells -/
structure EntAt (w : World) (b o : Nat) (x : Ent) : Prop where
  c0 : w.cell? ⟨b, o, none⟩ = some (.string x.h)
  c1 : w.cell? ⟨b, o + 1, none⟩ = some (.string x.t)
  c2 : w.cell? ⟨b, o + 2, none⟩ = some (.int .u64 0)
  c3 : w.cell? ⟨b, o + 3, none⟩ = some (.int .u64 (x.v : Int))
  c4 : w.cell? ⟨b, o + 4, none⟩ = some (.int .i64 x.b)
  c5 : w.cell? ⟨b, o + 5, none⟩ = some (.pointer none)
  c6 : w.cell? ⟨b, o + 6, none⟩ = some (.pointer none)

theorem cell_below {w w' : World} {B : Nat} {q : Addr} {v : Value} (hb : Below B w w') (hB : w.heap.size ≤ B) (h : w.cell? q = some v) : w'.cell? q = some v :=
  (hb.cell (Nat.lt_of_lt_of_le (World.block_lt_of_cell? w _ h) hB)).trans h

theorem EntAt.below {w w' : World} {b o B : Nat} {x : Ent} (h : EntAt w b o x) (hb : Below B w w') (hB : w.heap.size ≤ B) : EntAt w' b o x :=
  ⟨cell_below hb hB h.c0, cell_below hb hB h.c1, cell_below hb hB h.c2, cell_below hb hB h.c3, cell_below hb hB h.c4, cell_below hb hB h.c5, cell_below hb hB h.c6⟩

/-- a list of n allocations in K chunks lies at ⟨tb, 1⟩ -/
structure Lst (w : World) (tb K n : Nat) (s : Nat → Nat) (X : Nat → Ent) (a : Option Addr) (cK cb : Nat) (ib cp : Nat → Nat) : Prop where
  kMax : K ≤ 4096
  nMax : n ≤ 4096
  zero : s 0 = 0
  last : s K = n
  step : ∀ k, k < K → s k < s (k + 1)
  arr : K = 0 ∨ a = some ⟨cb, 0, none⟩
  chunks : w.cell? ⟨tb, 1, none⟩ = some (.slice a K cK)
  items : ∀ k, k < K → w.cell? ⟨cb, k * 4, none⟩ = some (.slice (some ⟨ib k, 0, none⟩) (s (k + 1) - s k) (cp k))
  ends : ∀ k, k < K → w.cell? ⟨cb, k * 4 + 1, none⟩ = some (.int .i64 (s (k + 1) : Int))
  ent : ∀ k j, k < K → s k + j < s (k + 1) → EntAt w (ib k) (j * 8) (X (s k + j))

section
variable {w : World} {tb K n : Nat} {s : Nat → Nat} {X : Nat → Ent} {a : Option Addr} {cK cb : Nat} {ib cp : Nat → Nat}

theorem Lst.below (h : Lst w tb K n s X a cK cb ib cp) {B : Nat} {w' : World} (hb : Below B w w') (hB : w.heap.size ≤ B) : Lst w' tb K n s X a cK cb ib cp where
  kMax := h.kMax
  nMax := h.nMax
  zero := h.zero
  last := h.last
  step := h.step
  arr := h.arr
  chunks := cell_below hb hB h.chunks
  items := fun k hk => cell_below hb hB (h.items k hk)
  ends := fun k hk => cell_below hb hB (h.ends k hk)
  ent := fun k j hk hj => (h.ent k j hk hj).below hb hB

theorem s_mono {s : Nat → Nat} {K : Nat} (hs : ∀ k, k < K → s k < s (k + 1)) {i j : Nat} (hij : i ≤ j) (hj : j ≤ K) : s i ≤ s j := by
  induction j with
  | zero => obtain rfl : i = 0 := by omega
            exact Nat.le_refl _
  | succ j ih =>
    by_cases e : i = j + 1
    · subst e; exact Nat.le_refl _
    · have := ih (by omega) (by omega)
      have := hs j (by omega)
      omega

theorem Lst.mono (h : Lst w tb K n s X a cK cb ib cp) {i j : Nat} (hij : i ≤ j) (hj : j ≤ K) : s i ≤ s j := s_mono h.step hij hj

theorem Lst.le (h : Lst w tb K n s X a cK cb ib cp) {i : Nat} (hi : i ≤ K) : s i ≤ 4096 := by
  have := h.mono hi (Nat.le_refl _)
  have := h.last
  have := h.nMax
  omega

/-- which chunk holds place i -/
theorem Lst.chunk (h : Lst w tb K n s X a cK cb ib cp) {i : Nat} (hi : i < n) : ∃ c, c < K ∧ s c ≤ i ∧ i < s (c + 1) := by
  have : ∀ m, m ≤ K → i < s m → ∃ c, c < m ∧ s c ≤ i ∧ i < s (c + 1) := by
    intro m
    induction m with
    | zero => intro _ h2; rw [h.zero] at h2; omega
    | succ m ih =>
      intro h1 h2
      by_cases e : i < s m
      · obtain ⟨c, h3, h4⟩ := ih (by omega) e
        exact ⟨c, by omega, h4⟩
      · exact ⟨m, by omega, by omega, h2⟩
  exact this K (Nat.le_refl _) (by rw [h.last]; exact hi)

/-- list.len -/
theorem len_any (h : Lst w tb K n s X a cK cb ib cp) : Calls Try.prog 27 #[.pointer (some ⟨tb, 1, none⟩)] w fun e w' => e = .returned (.int .i64 (n : Int)) ∧ ∃ m, w' = w.drewN m := by
  have c1 := h.chunks
  have hk := h.kMax
  rcases Nat.eq_zero_or_pos K with rfl | hpos
  · have e : n = 0 := by rw [← h.last, h.zero]
    subst e
    clear h
    go_enter Try.func27, Try.ntmps27
    go_wp2
    go_ret
    exact ⟨rfl, 0, rfl⟩
  · obtain ⟨J, rfl⟩ : ∃ J, K = J + 1 := ⟨K - 1, by omega⟩
    have e := h.ends J (by omega)
    rw [h.last] at e
    obtain ha | rfl := h.arr
    · omega
    clear h
    have f0 : ((J : Int) + 1 == 0) = false := by simp; omega
    have f1 : IntKind.i64.wrap ((J : Int) + 1 - 1) = (J : Int) := by rw [IntKind.wrap_i64]; omega
    go_enter Try.func27, Try.ntmps27
    go_wp2
    go_quiet (fail)
    go_wp2
    go_ret
    exact ⟨rfl, _, rfl⟩

/-- list.start -/
theorem start_any (h : Lst w tb K n s X a cK cb ib cp) (c : Nat) (hc : c < K) : Calls Try.prog 23 #[.pointer (some ⟨tb, 1, none⟩), .int .i64 (c : Int)] w fun e w' => e = .returned (.int .i64 (s c : Int)) ∧ w' = w := by
  have c1 := h.chunks
  have hk := h.kMax
  rcases Nat.eq_zero_or_pos c with rfl | hpos
  · rw [h.zero]
    clear h
    go_enter Try.func23, Try.ntmps23
    go_wp2
    go_ret
    exact ⟨rfl, rfl⟩
  · obtain ⟨J, rfl⟩ : ∃ J, c = J + 1 := ⟨c - 1, by omega⟩
    have e := h.ends J (by omega)
    obtain ha | rfl := h.arr
    · omega
    clear h
    go_enter Try.func23, Try.ntmps23
    go_wp2
    go_ret
    exact ⟨rfl, rfl⟩

/-- the test of chunkOf -/
theorem chunkOf1_any (h : Lst w tb K n s X a cK cb ib cp) (c i lb xb : Nat) (hc : c < K) (hi : i ≤ 4096) (hl : w.cell? ⟨lb, 0, none⟩ = some (.pointer (some ⟨tb, 1, none⟩))) (hx : w.cell? ⟨xb, 0, none⟩ = some (.int .i64 (i : Int))) :
    Calls Try.prog 29 #[.int .i64 (c : Int), .pointer (some ⟨lb, 0, none⟩), .pointer (some ⟨xb, 0, none⟩)] w fun e w' => e = .returned (.bool (decide (i < s (c + 1)))) ∧ Below w.heap.size w w' := by
  have c1 := h.chunks
  have hk := h.kMax
  have e := h.ends c hc
  obtain ha | rfl := h.arr
  · omega
  clear h
  have hcz : (c : Int) < (K : Int) := by omega
  go_enter Try.func29, Try.ntmps29
  go_wp2
  go_quiet (fail)
  go_wp2
  go_ret
  exact ⟨by simp, by first | exact (Below.refl _ _).drew | exact ⟨rfl, rfl, rfl, Nat.le_refl _, fun _ _ => rfl⟩⟩

end

end Go.Proofs.Qxb6615804a
