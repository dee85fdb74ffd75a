import Derived.Test.Qxb6615804aRows
import Derived.WalkKit
import Derived.WalkSpells
import Derived.Below
import Derived.Deep.OwnRows
import Derived.Deep.QuietTactic
import Derived.Deep.LoopGhost
import Derived.BigQuiet
import Derived.BigRegion
import Derived.Shelf.Abstract
namespace Go.Proofs.Qxb6615804a
open Go.RowKit
set_option linter.unusedVariables false
set_option linter.unusedSimpArgs false

theorem hidden {p : Prop} (h : p) : Hid p := h

/-- a world that lies behind w0: what lay stays -/
structure Since (w0 : World) where
  w : World
  below : Below w0.heap.size w0 w

theorem since_ne : ∀ w : World, Nonempty (Since w) := fun w => ⟨⟨w, Below.refl _ _⟩⟩

@[go_sem] theorem since_self {w : World} (x : Since w) : (∃ y : Since w, x.w = y.w) = True := eq_true ⟨x, rfl⟩

theorem wp_region_since {P : Program} {id : Nat} {Q : Exit → Act → World → Prop} {a : Act} {w : World} {l : List Oper} (hm : P.follows .mixedOrders = true) (hB : Region.lexB .any l.toArray = true)
    (h : wpQuiet P l.toArray (fun w' => ∃ x : Since w, w' = x.w) (fun a' => ∀ w', (∃ x : Since w, w' = x.w) → Q .normal a' w') l a) : (Code.region id l.toArray true).wp P Q a w :=
  wp_region_quiet (C := fun w' => ∃ x : Since w, w' = x.w) hm hB ⟨⟨_, (Below.refl _ w).drew⟩, rfl⟩ (by simpa using h)

theorem since_of {P : Program} {f : FuncId} {args : Array Value} {w : World} {x : Since w} {v : Value}
    (h : Calls P f args x.w fun e w' => e = .returned v ∧ Below x.w.heap.size x.w w') : Calls P f args x.w fun e w'' => e = .returned v ∧ ∃ y : Since w, w'' = y.w :=
  h.mono fun _ _ ⟨he, hb⟩ => ⟨he, ⟨_, x.below.trans (hb.mono x.below.size)⟩, rfl⟩

theorem Since.cell {w : World} (x : Since w) {q : Addr} {v : Value} (h : w.cell? q = some v) : x.w.cell? q = some v :=
  (x.below.cell (World.block_lt_of_cell? w q h)).trans h

theorem isNaN_any (x : Int) (w : World) : Calls Try.prog 33 #[.int .u64 x] w fun e w' => e = .returned (.bool false) ∧ w' = w := by
  go_enter Try.func33, Try.ntmps33
  go_wp2
  go_ret
  exact ⟨by simp, rfl⟩

/-- what cmp.Compare answers -/
def cmpOf (x y : Nat) : Int := if x < y then -1 else if y < x then 1 else 0

theorem cmp_any (x y : Nat) (w : World) : Calls Try.prog 32 #[.int .u64 (x : Int), .int .u64 (y : Int)] w fun e w' => e = .returned (.int .i64 (cmpOf x y)) ∧ w' = w := by
  have F : ∀ z : Int, ∀ w, Calls Try.prog 33 #[.int .u64 z] w fun e w' => e = .returned (.bool false) ∧ w' = w := isNaN_any
  unfold cmpOf
  by_cases h1 : x < y
  · go_enter Try.func32, Try.ntmps32
    go_wp2_with fail
    refine (isNaN_any _ w).mono ?_
    rintro e w ⟨rfl, rfl⟩
    go_wp2_with fail
    refine (isNaN_any _ w).mono ?_
    rintro e w ⟨rfl, rfl⟩
    go_wp2
    go_ret
    exact ⟨by simp [h1], rfl⟩
  · by_cases h2 : y < x
    · go_enter Try.func32, Try.ntmps32
      go_wp2_with fail
      refine (isNaN_any _ w).mono ?_
      rintro e w ⟨rfl, rfl⟩
      go_wp2_with fail
      refine (isNaN_any _ w).mono ?_
      rintro e w ⟨rfl, rfl⟩
      go_wp2
      go_ret
      exact ⟨by simp [h1, h2], rfl⟩
    · go_enter Try.func32, Try.ntmps32
      go_wp2_with fail
      refine (isNaN_any _ w).mono ?_
      rintro e w ⟨rfl, rfl⟩
      go_wp2_with fail
      refine (isNaN_any _ w).mono ?_
      rintro e w ⟨rfl, rfl⟩
      go_wp2
      go_ret
      exact ⟨by simp [h1, h2], rfl⟩

/-- two units below 2^64 compared -/
theorem compare_any (x y : Nat) (w : World) : Calls Try.prog 26 #[.agg #[.int .u64 0, .int .u64 (x : Int)], .agg #[.int .u64 0, .int .u64 (y : Int)]] w fun e w' => e = .returned (.int .i64 (cmpOf x y)) ∧ Below w.heap.size w w' := by
  go_enter Try.func26, Try.ntmps26
  go_wp2_with fail
  refine (cmp_any x y _).mono ?_
  rintro e w' ⟨rfl, rfl⟩
  go_wp2
  go_ret
  exact ⟨rfl, ((Below.refl _ _).alloc (by simp) _).alloc (by simp) _⟩

/-- the value at address p -/
def UnitAt (w : World) (b o : Nat) (x : Nat) : Prop := w.cell? ⟨b, o, none⟩ = some (.int .u64 0) ∧ w.cell? ⟨b, o + 1, none⟩ = some (.int .u64 (x : Int))

theorem UnitAt.below {w w' : World} {b o x B : Nat} (h : UnitAt w b o x) (hb : Below B w w') (hB : w.heap.size ≤ B) : UnitAt w' b o x :=
  ⟨(hb.cell (Nat.lt_of_lt_of_le (World.block_lt_of_cell? w _ h.1) hB)).trans h.1, (hb.cell (Nat.lt_of_lt_of_le (World.block_lt_of_cell? w _ h.2) hB)).trans h.2⟩

theorem cmp_ge (x y : Nat) : (0 ≤ cmpOf x y) ↔ y ≤ x := by
  unfold cmpOf
  split
  · omega
  · split <;> omega

/-- the test that find hands to search -/
theorem find1_any (i : Int) (b o x v vb : Nat) (w : World) (hx : UnitAt w b (o + 2) x) (hv : UnitAt w vb 0 v) :
    Calls Try.prog 25 #[.int .i64 i, .pointer (some ⟨b, o, none⟩), .pointer (some ⟨vb, 0, none⟩)] w fun e w' => e = .returned (.bool (decide (v ≤ x))) ∧ Below w.heap.size w w' := by
  obtain ⟨x1, x2⟩ := hx
  obtain ⟨v1, v2⟩ := hv
  have y1 : ∀ y : Since w, y.w.cell? ⟨b, o + 2, none⟩ = some (.int .u64 0) := fun y => y.cell x1
  have y2 : ∀ y : Since w, y.w.cell? ⟨b, o + 2 + 1, none⟩ = some (.int .u64 (x : Int)) := fun y => y.cell x2
  have y3 : ∀ y : Since w, y.w.cell? ⟨vb, 0, none⟩ = some (.int .u64 0) := fun y => y.cell v1
  have y4 : ∀ y : Since w, y.w.cell? ⟨vb, 0 + 1, none⟩ = some (.int .u64 (v : Int)) := fun y => y.cell v2
  have hcmp := fun w => compare_any x v w
  have hg := cmp_ge x v
  generalize cmpOf x v = c at hg hcmp
  go_enter Try.func25, Try.ntmps25
  go_wp2
  have ne := since_ne
  refine wp_region_since (by kernel_rfl) (by kernel_rfl) ?_
  repeat (quiet_step ((go_at_call 26; exact since_of (hcmp _))))
  refine wpQuiet_nil ?_
  intro _ hw'
  obtain ⟨⟨wq, hbq⟩, hw''⟩ := hw'
  subst hw''
  go_wp2
  go_ret
  exact ⟨by simp [hg], hbq⟩


set_option maxHeartbeats 1000000 in
theorem search_any (g : Nat) (cb : Array Value) (n : Nat) (p : Nat → Bool) (w : World) (eg : ∀ args w, (callFunc g args).run Try.prog w = .ok (.enter g args) w) (hsz : n < 4611686018427387904)
    (hf : ∀ (i : Nat) (w1 : World), i < n → Below w.heap.size w w1 → Calls Try.prog g (#[.int .i64 i] ++ cb) w1 fun e w' => e = .returned (.bool (p i)) ∧ Below w1.heap.size w1 w')
    (hmono : ∀ a b, a ≤ b → b < n → p a = true → p b = true) (r : Nat) (hr : r ≤ n) (hr0 : ∀ t, t < r → p t = false) (hr1 : ∀ t, r ≤ t → t < n → p t = true) :
    Calls Try.prog 28 #[.int .i64 n, .func (.func g) #[] cb] w fun e w' => e = .returned (.int .i64 (r : Int)) ∧ Below w.heap.size w w' := by
  have HF := hidden hf
  have M := hidden hmono
  have R0 := hidden hr0
  have R1 := hidden hr1
  clear hf hmono hr0 hr1
  go_enter Try.func28, Try.ntmps28
  go_wp2
  go_loopg [5, 6] n (fun kx s5 s6 wr => ∃ (lo hi : Nat), s5 = .int .i64 lo ∧ s6 = .int .i64 hi ∧ lo ≤ r ∧ r ≤ hi ∧ hi ≤ n ∧ hi - lo ≤ kx ∧ Below w.heap.size w wr)
  case atStart => exact ⟨0, n, rfl, rfl, Nat.zero_le _, hr, Nat.le_refl _, by omega, Below.refl _ _⟩
  case round =>
    obtain ⟨lo, hi, rfl, rfl, hlh, hin, hhn, hg, hbl⟩ := hrel
    by_cases hlt : lo < hi
    · have hc := HF.out ((lo + hi) / 2) wr (by omega) hbl
      rw [show (((lo + hi) / 2 : Nat) : Int) = ((lo : Int) + (hi : Int)) / 2 by omega] at hc
      cases hp : p ((lo + hi) / 2) <;> rw [hp] at hc
      · have HP := hidden hp
        clear hp
        go_wp2_with (go_at_fn g; refine hc.mono ?_; rintro e w' ⟨rfl, hb2⟩)
        go_roundg (hi - ((lo + hi) / 2 + 1))
        case measure => omega
        case rel =>
          have : (lo + hi) / 2 < r := by
            rcases Nat.lt_or_ge ((lo + hi) / 2) r with h | h
            · exact h
            · have := R1.out _ h (by omega)
              rw [HP.out] at this
              cases this
          exact ⟨(lo + hi) / 2 + 1, hi, by rw [show ((lo : Int) + (hi : Int)) / 2 + 1 = (((lo + hi) / 2 + 1 : Nat) : Int) by omega], rfl, by omega, hin, hhn, Nat.le_refl _, hbl.trans (hb2.mono hbl.size)⟩
      · have HP := hidden hp
        clear hp
        go_wp2_with (go_at_fn g; refine hc.mono ?_; rintro e w' ⟨rfl, hb2⟩)
        go_roundg ((lo + hi) / 2 - lo)
        case measure => omega
        case rel =>
          have : r ≤ (lo + hi) / 2 := by
            rcases Nat.lt_or_ge ((lo + hi) / 2) r with h | h
            · have := R0.out _ h
              rw [HP.out] at this
              cases this
            · exact h
          exact ⟨lo, (lo + hi) / 2, rfl, by rw [show ((lo : Int) + (hi : Int)) / 2 = (((lo + hi) / 2 : Nat) : Int) by omega], hlh, by omega, by omega, Nat.le_refl _, hbl.trans (hb2.mono hbl.size)⟩
    · obtain rfl : r = lo := by omega
      go_wp2
      go_ret
      exact ⟨rfl, hbl⟩

end Go.Proofs.Qxb6615804a
