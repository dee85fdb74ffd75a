import Derived.Test.Qxb6615804aLow
import Derived.Laws.StructEq
namespace Go.Proofs.Qxb6615804a
open Go.RowKit
set_option linter.unusedVariables false
set_option linter.unusedSimpArgs false

section
variable {w : World} {tb K n : Nat} {s : Nat → Nat} {X : Nat → Ent} {a : Option Addr} {cK cb : Nat} {ib cp : Nat → Nat}

theorem beq_cast (x v : Nat) : ((x : Int) == (v : Int)) = (x == v) := by
  rw [Bool.eq_iff_iff, beq_iff_eq, beq_iff_eq]; omega

theorem Try.under31 : Try.prog.underlying 31 = some (.struct (Try.prog.fieldsOf 31)) := by kernel_rfl
theorem Try.held31 : Try.prog.stoodInHeld 31 = false := by kernel_rfl
theorem Try.guard31 : Try.prog.eqGuardType Try.prog.depth 31 = false := by kernel_rfl
theorem Try.under25 : Try.prog.underlying 25 = some (.int .u64) := by kernel_rfl
@[go_sem] theorem eq31 (x v : Nat) (w : World) : (binOp .eql 31 (.agg #[.int .u64 0, .int .u64 (x : Int)]) (.agg #[.int .u64 0, .int .u64 (v : Int)])).run Try.prog w = .ok (.bool (x == v)) w := by
  rw [run_eql_struct, run_equalIn_agg _ _ _ _ _ Try.under31 Try.held31]
  by_cases h : x = v <;> simp [Op.eqFields, go_sem, h, Int.ofNat_inj]

@[go_sem] theorem guard31 (x y : Operand) (xs ys : Array Value) (w : World) : (eqGuard .eql 31 x y (.agg xs) (.agg ys)).run Try.prog w = .ok () w := run_eqGuard_agg w _ _ _ _ _ _ Try.guard31

/-- is v there -/
def there (X : Nat → Ent) (n v r : Nat) : Bool := decide (r < n) && (X r).v == v

theorem unit_new (w : World) (v : Nat) : UnitAt (w.alloc (.cells #[.int .u64 0, .int .u64 (v : Int)] 31)) w.heap.size 0 v := by
  constructor
  · rw [World.cell?_alloc_at _ _ _ _ (by simp)]; rfl
  · rw [World.cell?_alloc_at _ _ _ _ (by simp)]; rfl

set_option maxHeartbeats 2000000 in
/-- Table.find -/
theorem find_any (h : Lst w tb K n s X a cK cb ib cp) (v r : Nat) (hr : Low X n v r) :
    Calls Try.prog 21 #[.pointer (some ⟨tb, 0, none⟩), .agg #[.int .u64 0, .int .u64 (v : Int)]] w fun e w' => e = .returned (.tuple #[.int .i64 (r : Int), .bool (there X n v r)]) ∧ Below w.heap.size w w' := by
  have hB : Below w.heap.size w (w.alloc (.cells #[.int .u64 0, .int .u64 (v : Int)] 31)) := (Below.refl _ _).alloc (Nat.le_refl _) _
  have hv := unit_new w v
  have h' := h.below hB (Nat.le_refl _)
  have HS := search24_any h' v r w.heap.size hv hr
  have H' := hidden h'
  have HR := hidden hr
  have HV := hidden hv
  have HB := hidden hB
  clear h h' hr hv hB
  obtain ⟨t, ht⟩ : ∃ t, there X n v r = t := ⟨_, rfl⟩
  rw [ht]
  have HTH := hidden ht
  clear ht
  go_enter Try.func21, Try.ntmps21
  go_wp2_with fail
  refine HS.mono ?_
  rintro e w1 ⟨rfl, hb⟩
  clear HS
  have h1 := Lst.below H'.out hb (Nat.le_refl _)
  have hv1 := UnitAt.below HV.out hb (Nat.le_refl _)
  have HB1 := hidden (HB.out.trans (hb.mono HB.out.size))
  clear H' HV HB hb
  obtain ⟨v1, v2⟩ := hv1
  have y1 : ∀ y : Since w1, y.w.cell? ⟨w.heap.size, 0, none⟩ = some (.int .u64 0) := fun y => y.cell v1
  have y2 : ∀ y : Since w1, y.w.cell? ⟨w.heap.size, 1, none⟩ = some (.int .u64 (v : Int)) := fun y => y.cell v2
  have HL := fun y : Since w1 => len_any (h1.below y.below (Nat.le_refl _))
  by_cases hlt : r < n
  · obtain ⟨c, hc, hc1, hc2⟩ := h1.chunk hlt
    obtain ⟨j, hj⟩ : ∃ j, r = s c + j := ⟨r - s c, by omega⟩
    have HA := fun y : Since w1 => at_any (h1.below y.below (Nat.le_refl _)) c j hc (by omega)
    have hent := h1.ent c j hc (by omega)
    have y3 : ∀ y : Since w1, y.w.cell? ⟨ib c, j * 8 + 2, none⟩ = some (.int .u64 0) := fun y => y.cell hent.c2
    have y4 : ∀ y : Since w1, y.w.cell? ⟨ib c, j * 8 + 3, none⟩ = some (.int .u64 ((X (s c + j)).v : Int)) := fun y => y.cell hent.c3
    rw [← hj] at HA y4
    have e1 : t = ((X r).v == v) := by have := HTH.out; simp [there, hlt] at this; exact this.symm
    generalize (X r).v = xv at y4 e1
    have H1 := hidden h1
    clear h1 hent
    have hltz : (r : Int) < (n : Int) := by omega
    have E1 := hidden e1
    clear e1 hj hc1 hc2
    by_cases hxv : xv = v
    · subst hxv
      have e2 : t = true := by rw [E1.out]; simp
      subst e2
      go_wp2
      have ne := since_ne
      refine wp_region_since (by kernel_rfl) (by kernel_rfl) ?_
      repeat (quiet_step (first | (go_at_call 27; exact since_of ((HL _).mono fun e w' h => ⟨h.1, by obtain ⟨m, rfl⟩ := h.2; exact below_drewN (Below.refl _ _)⟩)) | (go_at_call 20; exact since_of (HA _))))
      refine wpQuiet_nil ?_
      intro _ hw'
      obtain ⟨⟨wq, hbq⟩, hw''⟩ := hw'
      subst hw''
      go_wp2
      go_ret2
      exact ⟨rfl, HB1.out.trans (hbq.mono HB1.out.size)⟩
    · have e2 : t = false := by rw [E1.out]; simp [hxv]
      subst e2
      have hxz : ¬ ((xv : Int) = (v : Int)) := by omega
      go_wp2
      have ne := since_ne
      refine wp_region_since (by kernel_rfl) (by kernel_rfl) ?_
      repeat (quiet_step (first | (go_at_call 27; exact since_of ((HL _).mono fun e w' h => ⟨h.1, by obtain ⟨m, rfl⟩ := h.2; exact below_drewN (Below.refl _ _)⟩)) | (go_at_call 20; exact since_of (HA _))))
      refine wpQuiet_nil ?_
      intro _ hw'
      obtain ⟨⟨wq, hbq⟩, hw''⟩ := hw'
      subst hw''
      go_wp2
      go_ret2
      exact ⟨rfl, HB1.out.trans (hbq.mono HB1.out.size)⟩
  · have e1 : t = false := by rw [← HTH.out]; simp [there, hlt]
    subst e1
    obtain rfl : r = n := by have := HR.out.le; omega
    have HQ := fun m => len_any (h1.below (w' := w1.drewN m) (below_drewN (Below.refl w1.heap.size w1)) (Nat.le_refl _))
    clear HL y1 y2 v1 v2 h1
    go_wp2
    go_quiet ((go_at_call 27; exact Calls.quiet_of (HQ _)))
    go_wp2
    go_ret2
    exact ⟨rfl, below_drewN HB1.out⟩

/-- ZZfind -/
theorem zzfind_any (h : Lst w tb K n s X a cK cb ib cp) (v r : Nat) (hr : Low X n v r) :
    Calls Try.prog 14 #[.pointer (some ⟨tb, 0, none⟩), .agg #[.int .u64 0, .int .u64 (v : Int)]] w fun e w' => e = .returned (.tuple #[.int .i64 (r : Int), .bool (there X n v r)]) ∧ Below w.heap.size w w' := by
  have hB : Below w.heap.size w (w.alloc (.cells #[.int .u64 0, .int .u64 (v : Int)] 31)) := (Below.refl _ _).alloc (Nat.le_refl _) _
  have HS := find_any (h.below hB (Nat.le_refl _)) v r hr
  have HB := hidden hB
  clear h hr hB
  go_enter Try.func14, Try.ntmps14
  go_wp2_with fail
  refine HS.mono ?_
  rintro e w1 ⟨rfl, hb⟩
  clear HS
  go_wp2
  go_ret2
  exact ⟨rfl, HB.out.trans (hb.mono HB.out.size)⟩

end

end Go.Proofs.Qxb6615804a
