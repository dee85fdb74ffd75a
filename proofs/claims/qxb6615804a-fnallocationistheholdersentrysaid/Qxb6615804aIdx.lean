import Derived.Test.Qxb6615804aPlain
namespace Go.Proofs.Qxb6615804a
open Go.RowKit
set_option linter.unusedVariables false
set_option linter.unusedSimpArgs false

theorem below_more {w0 w1 w2 : World} (h : Below w0.heap.size w0 w1) (h2 : Below w1.heap.size w1 w2) : Below w0.heap.size w0 w2 := h.trans (h2.mono h.size)

/-- a key of the map -/
def kl (s : ByteArray) : Lit := .string s.data.toList

theorem kl_inj {s t : ByteArray} (h : kl s = kl t) : s = t := by
  unfold kl at h
  simp at h
  exact ByteArray.ext h

theorem Dk_isMap (X : Nat → Ent) (k : Nat) : Go.Maps.IsMap (Dk X k) := by
  induction k with
  | zero => exact ⟨_, rfl⟩
  | succ k ih => exact Go.Maps.IsMap.put ih _ _

theorem Dk_none (X : Nat → Ent) (k : Nat) (q : ByteArray) (h : ∀ i, i < k → (X i).h ≠ q) : Go.Maps.has (Dk X k) (kl q) = false := by
  induction k with
  | zero => rfl
  | succ k ih =>
    unfold Dk
    have hne : kl q ≠ kl (X k).h := fun e => h k (by omega) (kl_inj e).symm
    exact (Go.Maps.has_put_other hne _).trans (ih (fun i hi => h i (by omega)))

theorem Dk_some (X : Nat → Ent) (k i : Nat) (hi : i < k) (h : ∀ a b, a < b → b < k → (X a).h ≠ (X b).h) : Go.Maps.has (Dk X k) (kl (X i).h) = true ∧ ∀ z, (Dk X k).atKey (kl (X i).h) z = .lit (.int .u64 ((X i).v : Int)) := by
  induction k with
  | zero => omega
  | succ k ih =>
    unfold Dk
    by_cases e : i = k
    · subst e
      exact ⟨Go.Maps.has_put_same (Dk_isMap X i) (by simp [kl, WideAt.IsKeyLit]) _, fun z => Go.Maps.atKey_put_same (Dk_isMap X i) (by simp [kl, WideAt.IsKeyLit]) _ z⟩
    · have hne : kl (X i).h ≠ kl (X k).h := fun e' => h i k (by omega) (by omega) (kl_inj e')
      have := ih (by omega) (fun a b h1 h2 => h a b h1 (by omega))
      exact ⟨by rw [← this.1]; exact Go.Maps.has_put_other hne _, fun z => by rw [← this.2 z]; exact Go.Maps.atKey_put_other hne _ z⟩

/-- an allocation's value -/
def entVal (x : Ent) : Value := .agg #[.string x.h, .string x.t, .int .u64 0, .int .u64 (x.v : Int), .int .i64 x.b, .pointer none, .pointer none]

/-- at the place of a value the search comes out -/
theorem low_at {X : Nat → Ent} {n i : Nat} (hup : ∀ i, i < n → 0 < i → (X (i - 1)).v < (X i).v) (hi : i < n) : Low X n (X i).v i :=
  ⟨by omega, fun t ht => asc (V := fun i => (X i).v) hup ht hi, fun t h1 h2 => by
    by_cases e : t = i
    · subst e; exact Nat.le_refl _
    · exact Nat.le_of_lt (asc (V := fun i => (X i).v) hup (i := i) (j := t) (by omega) h2)⟩

/-- what a table in memory is -/
structure TabIs (w : World) (tb mb K n : Nat) (s : Nat → Nat) (X : Nat → Ent) (a : Option Addr) (cK cb : Nat) (ib cp : Nat → Nat) : Prop where
  l : Lst w tb K n s X a cK cb ib cp
  c : w.cell? ⟨tb, 0, none⟩ = some (.map (some mb))
  m : w.ownsMap Try.prog 9 uR mb n (Dk X n)

section
variable {w : World} {tb mb K n : Nat} {s : Nat → Nat} {X : Nat → Ent} {a : Option Addr} {cK cb : Nat} {ib cp : Nat → Nat}

theorem TabIs.below (h : TabIs w tb mb K n s X a cK cb ib cp) {w' : World} (hb : Below w.heap.size w w') : TabIs w' tb mb K n s X a cK cb ib cp := by
  refine ⟨h.l.below hb (Nat.le_refl _), cell_below hb (Nat.le_refl _) h.c, ?_⟩
  obtain ⟨es, cl, h1, h2⟩ := h.m
  exact ⟨es, cl, (hb.block _ (lt_heap h1)).trans h1, h2⟩

theorem zero31 (w : World) : (zeroValue 31).run Try.prog w = .ok (.agg #[.int .u64 0, .int .u64 0]) w := by
  first | rfl | kernel_rfl | simp [zeroValue, go_sem]

set_option maxHeartbeats 1000000 in
/-- Table.index of a holder that is there -/
theorem index_some (h : TabIs w tb mb K n s X a cK cb ib cp) (i : Nat) (hi : i < n) (hup : ∀ i, i < n → 0 < i → (X (i - 1)).v < (X i).v) (hne : ∀ a b, a < b → b < n → (X a).h ≠ (X b).h) (hsz : (X i).h.size ≤ maxLen) :
    Calls Try.prog 19 #[.pointer (some ⟨tb, 0, none⟩), .string (X i).h] w fun e w' => e = .returned (.tuple #[.int .i64 (i : Int), .bool true]) ∧ Below w.heap.size w w' := by
  obtain ⟨v, ps, hrun, hv⟩ := h.m.look_ok (Go.Maps.string_keyed Try.underlying9) Try.underlying47 (zero31 w) (uR_mk 0) (Go.WideMaps.keyOf_string_mk Try.underlying9 hsz)
  obtain ⟨d1, d2⟩ := Dk_some X n i hi hne
  have e1 : Go.Maps.has (Dk X n) (.string (X i).h.data.toList) = true := d1
  have e2 := d2 (.lit (.int .u64 0))
  rw [e1] at hrun
  have hv' : uR v = some (.lit (.int .u64 ((X i).v : Int)), ps) := by rw [← e2]; exact hv
  obtain rfl := uR_inv hv'
  have c1 := h.c
  have hB : Below w.heap.size w (w.alloc (.cells #[.int .u64 0, .int .u64 ((X i).v : Int)] 31)) := (Below.refl _ _).alloc (Nat.le_refl _) _
  have F := find_any (h.l.below hB (Nat.le_refl _)) (X i).v i (low_at hup hi)
  have HB := hidden hB
  clear h hv hv' d1 d2 e1 e2 hB hup hne
  go_enter Try.func19, Try.ntmps19
  go_wp2_with fail
  refine F.mono ?_
  rintro e w1 ⟨rfl, hb⟩
  clear F
  go_wp2
  go_ret2
  exact ⟨rfl, below_more HB.out hb⟩

end

end Go.Proofs.Qxb6615804a
