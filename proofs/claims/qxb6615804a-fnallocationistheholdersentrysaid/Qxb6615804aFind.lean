import Derived.Test.Qxb6615804aList
namespace Go.Proofs.Qxb6615804a
open Go.RowKit
set_option linter.unusedVariables false
set_option linter.unusedSimpArgs false

theorem eg29 : ∀ args w, (callFunc 29 args).run Try.prog w = .ok (.enter 29 args) w := enters_of Try.func29 (by kernel_rfl) rfl
theorem eg30 : ∀ args w, (callFunc 30 args).run Try.prog w = .ok (.enter 30 args) w := enters_of Try.func30 (by kernel_rfl) rfl
theorem eg31 : ∀ args w, (callFunc 31 args).run Try.prog w = .ok (.enter 31 args) w := enters_of Try.func31 (by kernel_rfl) rfl

section
variable {w : World} {tb K n : Nat} {s : Nat → Nat} {X : Nat → Ent} {a : Option Addr} {cK cb : Nat} {ib cp : Nat → Nat}

theorem cell_alloc {W : World} {q : Addr} {v : Value} (o : Obj) (h : W.cell? q = some v) : (W.alloc o).cell? q = some v :=
  cell_below ((Below.refl W.heap.size W).alloc (Nat.le_refl _) o) (Nat.le_refl _) h

theorem cell_new (W : World) (v : Value) (t : TypeId) : (W.alloc (.cells #[v] t)).cell? ⟨W.heap.size, 0, none⟩ = some v := by
  rw [World.cell?_alloc_at _ _ _ _ (by simp)]; rfl

/-- list.chunkOf -/
theorem chunkOf_any (h : Lst w tb K n s X a cK cb ib cp) (c i : Nat) (hc : c < K) (h1 : s c ≤ i) (h2 : i < s (c + 1)) :
    Calls Try.prog 22 #[.pointer (some ⟨tb, 1, none⟩), .int .i64 (i : Int)] w fun e w' => e = .returned (.int .i64 (c : Int)) ∧ Below w.heap.size w w' := by
  have c1 := h.chunks
  have hk := h.kMax
  have hi : i ≤ 4096 := by have := h.le (i := c + 1) (by omega); omega
  have b2 : Below w.heap.size w ((w.alloc (.cells #[.pointer (some ⟨tb, 1, none⟩)] 68)).alloc (.cells #[.int .i64 (i : Int)] 3)) := ((Below.refl _ _).alloc (by simp) _).alloc (by simp) _
  have HS := search_any 29 #[.pointer (some ⟨w.heap.size, 0, none⟩), .pointer (some ⟨w.heap.size + 1, 0, none⟩)] K (fun c => decide (i < s (c + 1))) ((w.alloc (.cells #[.pointer (some ⟨tb, 1, none⟩)] 68)).alloc (.cells #[.int .i64 (i : Int)] 3)) eg29 (by omega)
    (fun j w1 hj hb => chunkOf1_any ((h.below b2 (Nat.le_refl _)).below hb (Nat.le_refl _)) j i _ _ hj hi (cell_below hb (Nat.le_refl _) (cell_alloc _ (cell_new _ _ _))) (cell_below hb (Nat.le_refl _) (by have := cell_new (w.alloc (.cells #[.pointer (some ⟨tb, 1, none⟩)] 68)) (.int .i64 (i : Int)) 3; rw [World.size_alloc] at this; exact this)))
    (fun p q hpq hq hp => by
      have := h.mono (i := p + 1) (j := q + 1) (by omega) (by omega)
      simp at hp ⊢
      omega) c (by omega) (fun t ht => by
      have := h.mono (i := t + 1) (j := c) (by omega) (by omega)
      simp
      omega) (fun t ht htn => by
      have := h.mono (i := c + 1) (j := t + 1) (by omega) (by omega)
      simp
      omega)
  have c1' : ((w.alloc (.cells #[.pointer (some ⟨tb, 1, none⟩)] 68)).alloc (.cells #[.int .i64 (i : Int)] 3)).cell? ⟨tb, 1, none⟩ = some (.slice a K cK) := cell_alloc _ (cell_alloc _ c1)
  have HB := hidden b2
  clear h b2
  go_enter Try.func22, Try.ntmps22
  go_wp2_with fail
  refine HS.mono ?_
  rintro e w' ⟨rfl, hb⟩
  clear HS
  go_wp2
  go_ret
  exact ⟨rfl, HB.out.trans (hb.mono HB.out.size)⟩

set_option maxHeartbeats 1000000 in
/-- list.at -/
theorem at_any (h : Lst w tb K n s X a cK cb ib cp) (c j : Nat) (hc : c < K) (h2 : s c + j < s (c + 1)) :
    Calls Try.prog 20 #[.pointer (some ⟨tb, 1, none⟩), .int .i64 ((s c + j : Nat) : Int)] w fun e w' => e = .returned (.pointer (some ⟨ib c, j * 8, none⟩)) ∧ Below w.heap.size w w' := by
  have hle := h.le (i := c + 1) (by omega)
  have hk := h.kMax
  have HC := chunkOf_any h c (s c + j) hc (by omega) h2
  have H := hidden h
  clear h
  go_enter Try.func20, Try.ntmps20
  go_wp2_with fail
  refine HC.mono ?_
  rintro e w' ⟨rfl, hb⟩
  clear HC
  have h' := Lst.below H.out hb (Nat.le_refl _)
  have HS := fun m => start_any (h'.below (w' := w'.drewN m) (B := w'.heap.size) ⟨rfl, rfl, rfl, Nat.le_refl _, fun _ _ => rfl⟩ (Nat.le_refl _)) c hc
  have c1 := h'.chunks
  have c2 := h'.items c hc
  obtain ha | rfl := h'.arr
  · omega
  have H' := hidden h'
  clear h' H
  have hcz : (c : Int) < (K : Int) := by omega
  have f1 : IntKind.i64.wrap ((s c : Int) + (j : Int) - (s c : Int)) = (j : Int) := by rw [IntKind.wrap_i64]; omega
  have f2 : (j : Int) < ((s (c + 1) - s c : Nat) : Int) := by omega
  have f3 : j < s (c + 1) - s c := by omega
  generalize s (c + 1) - s c = L at *
  go_wp2
  go_quiet ((go_at_call 23; exact Calls.quiet_of_same (HS _)))
  go_wp2
  go_ret
  exact ⟨rfl, hb.trans ⟨rfl, rfl, rfl, Nat.le_refl _, fun _ _ => rfl⟩⟩

end

end Go.Proofs.Qxb6615804a
