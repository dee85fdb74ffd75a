import Derived.Test.Qxb6615804aFind
namespace Go.Proofs.Qxb6615804a
open Go.RowKit
set_option linter.unusedVariables false
set_option linter.unusedSimpArgs false

section
variable {w : World} {tb K n : Nat} {s : Nat → Nat} {X : Nat → Ent} {a : Option Addr} {cK cb : Nat} {ib cp : Nat → Nat}

theorem EntAt.unit {w : World} {b o : Nat} {x : Ent} (h : EntAt w b o x) : UnitAt w b (o + 2) x.v := ⟨h.c2, h.c3⟩

set_option maxHeartbeats 1000000 in
/-- the first test of search -/
theorem search1_any (h : Lst w tb K n s X a cK cb ib cp) (c v lb ob vb : Nat) (hc : c < K) (hl : w.cell? ⟨lb, 0, none⟩ = some (.pointer (some ⟨tb, 1, none⟩)))
    (ho : w.cell? ⟨ob, 0, none⟩ = some (.func (.func 25) #[] #[.pointer (some ⟨vb, 0, none⟩)])) (hv : UnitAt w vb 0 v) :
    Calls Try.prog 30 #[.int .i64 (c : Int), .pointer (some ⟨lb, 0, none⟩), .pointer (some ⟨ob, 0, none⟩)] w fun e w' => e = .returned (.bool (decide (v ≤ (X (s (c + 1) - 1)).v))) ∧ Below w.heap.size w w' := by
  have hst := h.step c hc
  have hle := h.le (i := c + 1) (by omega)
  have hk := h.kMax
  obtain ⟨L, hL⟩ : ∃ L, s (c + 1) = s c + L + 1 := ⟨s (c + 1) - s c - 1, by omega⟩
  have c1 := h.chunks
  have c2 := h.items c hc
  have c3 := h.ends c hc
  rw [hL, show s c + L + 1 - s c = L + 1 by omega] at c2
  rw [hL] at c3
  have hent := h.ent c L hc (by omega)
  rw [hL, show s c + L + 1 - 1 = s c + L by omega]
  have HF := fun (y : Since w) (i : Int) => find1_any i (ib c) (L * 8) (X (s c + L)).v v vb y.w (hent.unit.below y.below (Nat.le_refl _)) (hv.below y.below (Nat.le_refl _))
  generalize (X (s c + L)).v = xv at HF ⊢
  obtain ha | rfl := h.arr
  · omega
  clear h hent hv
  have y1 : ∀ y : Since w, y.w.cell? ⟨lb, 0, none⟩ = _ := fun y => y.cell hl
  have y2 : ∀ y : Since w, y.w.cell? ⟨ob, 0, none⟩ = _ := fun y => y.cell ho
  have y3 : ∀ y : Since w, y.w.cell? ⟨tb, 1, none⟩ = _ := fun y => y.cell c1
  have y4 : ∀ y : Since w, y.w.cell? ⟨cb, c * 4 + 1, none⟩ = _ := fun y => y.cell c3
  have hcz : (c : Int) < (K : Int) := by omega
  have f1 : IntKind.i64.wrap (L : Int) = (L : Int) := by rw [IntKind.wrap_i64]; omega
  have f2 : IntKind.i64.wrap ((s c : Int) + (L : Int)) = (s c : Int) + (L : Int) := by rw [IntKind.wrap_i64]; omega
  have f3 : (L : Int) < (L : Int) + 1 := by omega
  go_enter Try.func30, Try.ntmps30
  go_wp2
  have ne := since_ne
  refine wp_region_since (by kernel_rfl) (by kernel_rfl) ?_
  repeat (quiet_step ((go_at_call 25; exact since_of (HF _ _))))
  refine wpQuiet_nil ?_
  intro _ hw'
  obtain ⟨⟨wq, hbq⟩, hw''⟩ := hw'
  subst hw''
  go_wp2
  go_ret
  exact ⟨rfl, hbq⟩

set_option maxHeartbeats 1000000 in
/-- the second test of search -/
theorem search2_any (j v ob sb jb vb st ib0 L cp0 xv : Nat) (hj : j < L) (hL : st + L ≤ 4096) (w : World) (ho : w.cell? ⟨ob, 0, none⟩ = some (.func (.func 25) #[] #[.pointer (some ⟨vb, 0, none⟩)]))
    (hs : w.cell? ⟨sb, 0, none⟩ = some (.int .i64 (st : Int))) (hi : w.cell? ⟨jb, 0, none⟩ = some (.slice (some ⟨ib0, 0, none⟩) L cp0)) (hu : UnitAt w ib0 (j * 8 + 2) xv) (hv : UnitAt w vb 0 v) :
    Calls Try.prog 31 #[.int .i64 (j : Int), .pointer (some ⟨ob, 0, none⟩), .pointer (some ⟨sb, 0, none⟩), .pointer (some ⟨jb, 0, none⟩)] w fun e w' => e = .returned (.bool (decide (v ≤ xv))) ∧ Below w.heap.size w w' := by
  have HF := fun (y : Since w) (i : Int) => find1_any i ib0 (j * 8) xv v vb y.w (hu.below y.below (Nat.le_refl _)) (hv.below y.below (Nat.le_refl _))
  have y1 : ∀ y : Since w, y.w.cell? ⟨sb, 0, none⟩ = _ := fun y => y.cell hs
  have y2 : ∀ y : Since w, y.w.cell? ⟨ob, 0, none⟩ = _ := fun y => y.cell ho
  have y3 : ∀ y : Since w, y.w.cell? ⟨jb, 0, none⟩ = _ := fun y => y.cell hi
  have hcz : (j : Int) < (L : Int) := by omega
  have f1 : IntKind.i64.wrap ((st : Int) + (j : Int)) = (st : Int) + (j : Int) := by rw [IntKind.wrap_i64]; omega
  clear hu hv
  go_enter Try.func31, Try.ntmps31
  go_wp2
  have ne := since_ne
  refine wp_region_since (by kernel_rfl) (by kernel_rfl) ?_
  repeat (quiet_step ((go_at_call 25; exact since_of (HF _ _))))
  refine wpQuiet_nil ?_
  intro _ hw'
  obtain ⟨⟨wq, hbq⟩, hw''⟩ := hw'
  subst hw''
  go_wp2
  go_ret
  exact ⟨rfl, hbq⟩

@[go_sem] theorem since_cell {W : World} (y : Since W) (b o : Nat) (h : b < W.heap.size) : y.w.cell? ⟨b, o, none⟩ = W.cell? ⟨b, o, none⟩ := y.below.cell h

theorem start_zero (tb : Nat) (w : World) : Calls Try.prog 23 #[.pointer (some ⟨tb, 1, none⟩), .int .i64 0] w fun e w' => e = .returned (.int .i64 0) ∧ w' = w := by
  go_enter Try.func23, Try.ntmps23
  go_wp2
  go_ret
  exact ⟨rfl, rfl⟩

theorem start_succ (tb K cK cb J st : Nat) (w : World) (hJ : J + 1 < K) (hK : K ≤ 4096) (c1 : w.cell? ⟨tb, 1, none⟩ = some (.slice (some ⟨cb, 0, none⟩) K cK)) (e : w.cell? ⟨cb, J * 4 + 1, none⟩ = some (.int .i64 (st : Int))) :
    Calls Try.prog 23 #[.pointer (some ⟨tb, 1, none⟩), .int .i64 ((J : Int) + 1)] w fun e w' => e = .returned (.int .i64 (st : Int)) ∧ w' = w := by
  have f0 : ((J : Int) + 1 == 0) = false := by simp; omega
  have f1 : (J : Int) < (K : Int) := by omega
  go_enter Try.func23, Try.ntmps23
  go_wp2
  go_ret
  exact ⟨rfl, rfl⟩

/-- r is how many lie below v -/
structure Low (X : Nat → Ent) (n v r : Nat) : Prop where
  le : r ≤ n
  lo : ∀ t, t < r → (X t).v < v
  hi : ∀ t, r ≤ t → t < n → v ≤ (X t).v

theorem Low.chunk {X : Nat → Ent} {v r : Nat} (h : Lst w tb K n s X a cK cb ib cp) (hr : Low X n v r) : ∃ c0, c0 ≤ K ∧ ((c0 = K ∧ r = n) ∨ (c0 < K ∧ s c0 ≤ r ∧ r < s (c0 + 1))) := by
  by_cases e : r = n
  · exact ⟨K, Nat.le_refl _, .inl ⟨rfl, e⟩⟩
  · have := hr.le
    obtain ⟨c, h1, h2, h3⟩ := h.chunk (i := r) (by omega)
    exact ⟨c, by omega, .inr ⟨h1, h2, h3⟩⟩

theorem below_drewN {W w' : World} {m : Nat} (hb : Below W.heap.size W w') : Below W.heap.size W (w'.drewN m) := ⟨hb.os, hb.tape, hb.output, hb.size, hb.block⟩

/-- the world in which search's two boxes lie -/
def box2 (w : World) (tb vb : Nat) : World := (w.alloc (.cells #[.pointer (some ⟨tb, 1, none⟩)] 68)).alloc (.cells #[.func (.func 25) #[] #[.pointer (some ⟨vb, 0, none⟩)]] 72)

theorem box2_below (w : World) (tb vb : Nat) : Below w.heap.size w (box2 w tb vb) := ((Below.refl _ _).alloc (by simp) _).alloc (by simp) _

theorem box2_l (w : World) (tb vb : Nat) : (box2 w tb vb).cell? ⟨w.heap.size, 0, none⟩ = some (.pointer (some ⟨tb, 1, none⟩)) := cell_alloc _ (cell_new _ _ _)

theorem box2_o (w : World) (tb vb : Nat) : (box2 w tb vb).cell? ⟨w.heap.size + 1, 0, none⟩ = some (.func (.func 25) #[] #[.pointer (some ⟨vb, 0, none⟩)]) := by
  have := cell_new (w.alloc (.cells #[.pointer (some ⟨tb, 1, none⟩)] 68)) (.func (.func 25) #[] #[.pointer (some ⟨vb, 0, none⟩)]) 72
  rw [World.size_alloc] at this
  exact this

theorem since_two {w1 : World} {o1 o2 : Obj} (y : Since (((w1.alloc o1).alloc o2).drew)) : Below w1.heap.size w1 y.w :=
  ((((Below.refl w1.heap.size w1).alloc (Nat.le_refl _) o1).alloc (by simp) o2).drew).trans (y.below.mono (by simp; omega))

theorem since_one {w1 : World} {v1 : Value} {t1 : TypeId} {o2 : Obj} (y : Since (((w1.alloc (.cells #[v1] t1)).alloc o2).drew)) : y.w.cell? ⟨w1.heap.size, 0, none⟩ = some v1 :=
  y.cell (cell_alloc o2 (cell_new w1 v1 t1))

theorem since_snd {w1 : World} {v2 : Value} {t2 : TypeId} {o1 : Obj} (y : Since (((w1.alloc o1).alloc (.cells #[v2] t2)).drew)) : y.w.cell? ⟨w1.heap.size + 1, 0, none⟩ = some v2 :=
  y.cell (by have := cell_new (w1.alloc o1) v2 t2; rw [World.size_alloc] at this; exact this)

/-- the second search -/
theorem tail_any (h : Lst w tb K n s X a cK cb ib cp) (c v r vb ob : Nat) (hc : c < K) (h1 : s c ≤ r) (h2 : r < s (c + 1)) (hr : Low X n v r) (hv : UnitAt w vb 0 v) (ho : w.cell? ⟨ob, 0, none⟩ = some (.func (.func 25) #[] #[.pointer (some ⟨vb, 0, none⟩)]))
    (W : World) (hW : Below w.heap.size w W) (b6 b7 cp0 : Nat) (k1 : W.cell? ⟨b6, 0, none⟩ = some (.int .i64 (s c : Int))) (k2 : W.cell? ⟨b7, 0, none⟩ = some (.slice (some ⟨ib c, 0, none⟩) (s (c + 1) - s c) cp0)) :
    Calls Try.prog 28 #[.int .i64 ((s (c + 1) - s c : Nat) : Int), .func (.func 31) #[] #[.pointer (some ⟨ob, 0, none⟩), .pointer (some ⟨b6, 0, none⟩), .pointer (some ⟨b7, 0, none⟩)]] W fun e w' => e = .returned (.int .i64 ((r - s c : Nat) : Int)) ∧ Below W.heap.size W w' := by
  have hle := h.le (i := c + 1) (by omega)
  have hen := h.mono (i := c + 1) (j := K) (by omega) (Nat.le_refl _)
  rw [h.last] at hen
  refine search_any 31 #[.pointer (some ⟨ob, 0, none⟩), .pointer (some ⟨b6, 0, none⟩), .pointer (some ⟨b7, 0, none⟩)] (s (c + 1) - s c) (fun j => decide (v ≤ (X (s c + j)).v)) W eg31 (by omega)
    (fun j w1 hj hb => search2_any j v ob b6 b7 vb (s c) (ib c) (s (c + 1) - s c) cp0 _ hj (by omega) w1 (cell_below hb (Nat.le_refl _) (cell_below hW (Nat.le_refl _) ho)) (cell_below hb (Nat.le_refl _) k1) (cell_below hb (Nat.le_refl _) k2)
      (((h.ent c j hc (by omega)).unit.below hW (Nat.le_refl _)).below hb (Nat.le_refl _)) ((hv.below hW (Nat.le_refl _)).below hb (Nat.le_refl _)))
    (fun p q hpq hq hp => ?_) (r - s c) (by omega) (fun t ht => ?_) (fun t ht htn => ?_)
  · simp at hp ⊢
    rcases Nat.lt_or_ge (s c + q) r with h4 | h4
    · have := hr.lo (s c + p) (by omega)
      omega
    · exact hr.hi _ h4 (by omega)
  · have := hr.lo (s c + t) (by omega)
    simp
    omega
  · simp
    exact hr.hi (s c + t) (by omega) (by omega)

set_option maxHeartbeats 2000000 in
/-- list.search with the test of find -/
theorem search24_any (h : Lst w tb K n s X a cK cb ib cp) (v r vb : Nat) (hv : UnitAt w vb 0 v) (hr : Low X n v r) :
    Calls Try.prog 24 #[.pointer (some ⟨tb, 1, none⟩), .func (.func 25) #[] #[.pointer (some ⟨vb, 0, none⟩)]] w fun e w' => e = .returned (.int .i64 (r : Int)) ∧ Below w.heap.size w w' := by
  have hk := h.kMax
  have hn := h.nMax
  have hB := box2_below w tb vb
  have h' := h.below hB (Nat.le_refl _)
  have hv' := hv.below hB (Nat.le_refl _)
  have hl := box2_l w tb vb
  have ho := box2_o w tb vb
  obtain ⟨c0, hc0, hcase⟩ := Low.chunk h hr
  have HS := search_any 30 #[.pointer (some ⟨w.heap.size, 0, none⟩), .pointer (some ⟨w.heap.size + 1, 0, none⟩)] K (fun c => decide (v ≤ (X (s (c + 1) - 1)).v)) (box2 w tb vb) eg30 (by omega)
    (fun j w1 hj hb => search1_any (h'.below hb (Nat.le_refl _)) j v _ _ vb hj (cell_below hb (Nat.le_refl _) hl) (cell_below hb (Nat.le_refl _) ho) (hv'.below hb (Nat.le_refl _)))
    (fun p q hpq hq hp => by
      have h1 := h.mono (i := p + 1) (j := q + 1) (by omega) (by omega)
      have h2 := h.mono (i := q + 1) (j := K) (by omega) (Nat.le_refl _)
      rw [h.last] at h2
      have h3 := h.step p (by omega)
      simp at hp ⊢
      rcases Nat.lt_or_ge (s (q + 1) - 1) r with h4 | h4
      · have := hr.lo (s (p + 1) - 1) (by omega)
        omega
      · exact hr.hi _ h4 (by omega)) c0 hc0 (fun t ht => by
      have h1 := h.mono (i := t + 1) (j := c0) (by omega) (by omega)
      have h3 := h.step t (by omega)
      have := hr.lo (s (t + 1) - 1) (by
        rcases hcase with ⟨h5, h6⟩ | ⟨h5, h6, h7⟩
        · subst h5; have := h.last; omega
        · omega)
      simp
      omega) (fun t ht htn => by
      have h1 := h.mono (i := c0 + 1) (j := t + 1) (by omega) (by omega)
      have h2 := h.mono (i := t + 1) (j := K) (by omega) (Nat.le_refl _)
      rw [h.last] at h2
      have h3 := h.step t (by omega)
      simp
      exact hr.hi _ (by omega) (by omega))
  have H' := hidden h'
  have HV := hidden hv'
  have HR := hidden hr
  have HB := hidden hB
  have HC := hidden hcase
  have HST := hidden h.step
  have HLE := hidden (fun i hi => h.le (i := i) hi)
  have c1 := h'.chunks
  have e24 : (w.alloc (.cells #[.pointer (some ⟨tb, 1, none⟩)] 68)).alloc (.cells #[.func (.func 25) #[] #[.pointer (some ⟨vb, 0, none⟩)]] 72) = box2 w tb vb := rfl
  clear h h' hv hv' hr hB hcase
  go_enter Try.func24, Try.ntmps24
  go_wp2_with fail
  refine HS.mono ?_
  rintro e w1 ⟨rfl, hb⟩
  clear HS e24 c1
  have h1 := Lst.below H'.out hb (Nat.le_refl _)
  have hl1 := cell_below hb (Nat.le_refl _) hl
  have ho1 := cell_below hb (Nat.le_refl _) ho
  have HV1 := hidden (UnitAt.below HV.out hb (Nat.le_refl _))
  have HB1 := hidden (HB.out.trans (hb.mono HB.out.size))
  have c1 := h1.chunks
  have hsz : w.heap.size + 2 ≤ w1.heap.size := by have := hb.size; simp [box2] at this; omega
  clear hl ho HV HB hb H'
  rcases HC.out with ⟨h5, h6⟩ | ⟨h5, h6, h7⟩
  · subst h5
    subst h6
    have HL := len_any h1
    have H1 := hidden h1
    clear h1
    go_wp2_with fail
    refine HL.mono ?_
    rintro e w2 ⟨rfl, m, rfl⟩
    clear HL
    go_wp2
    go_ret
    exact ⟨rfl, below_drewN HB1.out⟩
  · have f0 : ((c0 : Int) == (K : Int)) = false := by simp; omega
    obtain ha | rfl := h1.arr
    · omega
    have c2 := h1.items c0 h5
    have htb := World.block_lt_of_cell? _ _ c1
    have hcb := World.block_lt_of_cell? _ _ c2
    simp only at htb hcb
    have hcz : (c0 : Int) < (K : Int) := by omega
    have H1 := hidden h1
    clear h1
    have HT := tail_any H1.out c0 v r vb _ h5 h6 h7 HR.out HV1.out ho1
    have e0 : s 0 = 0 := H1.out.zero
    have hrn : r ≤ 4096 := by have := HLE.out (c0 + 1) (by omega); omega
    rcases Nat.eq_zero_or_pos c0 with rfl | hpos
    · have fw : IntKind.i64.wrap (r : Int) = (r : Int) := by rw [IntKind.wrap_i64]; omega
      simp only [e0, Nat.zero_add, Nat.zero_mul, Nat.sub_zero] at c2 HT
      have F := fun W => start_zero tb W
      go_wp2
      go_region_held3 (fun W => W.cell? ⟨w.heap.size, 0, none⟩ = some (.pointer (some ⟨tb, 1, none⟩)) ∧ W.cell? ⟨tb, 1, none⟩ = some (.slice (some ⟨cb, 0, none⟩) K cK) ∧ W.cell? ⟨cb, 0, none⟩ = some (.slice (some ⟨ib 0, 0, none⟩) (s 1) (cp 0))) (go_keep)
        (first | (go_at_call 23; refine (F _).mono ?_; rintro e w' ⟨rfl, rfl⟩))
      all_goals go_wp2
      all_goals (have ne := since_ne; refine wp_region_since (by kernel_rfl) (by kernel_rfl) ?_; (repeat (quiet_step ((go_at_call 28; first | exact since_of (HT _ (since_two _) _ _ _ (since_one _) (since_snd _)) | exact since_of (HT _ (since_two _) _ _ _ (since_snd _) (since_one _)))))); refine wpQuiet_nil ?_; intro _ hw'; obtain ⟨⟨wq, hbq⟩, hw''⟩ := hw'; subst hw'')
      all_goals go_wp2
      all_goals go_ret
      all_goals exact ⟨rfl, HB1.out.trans ((since_two ⟨_, hbq⟩).mono HB1.out.size)⟩
    · have c3 := H1.out.ends (c0 - 1) (by omega)
      rw [show c0 - 1 + 1 = c0 by omega] at c3
      have fw : IntKind.i64.wrap ((s c0 : Int) + ((r - s c0 : Nat) : Int)) = (r : Int) := by rw [IntKind.wrap_i64]; omega
      have F : ∀ (st eo : Nat) (W : World), eo = (c0 - 1) * 4 + 1 → W.cell? ⟨tb, 1, none⟩ = some (.slice (some ⟨cb, 0, none⟩) K cK) → W.cell? ⟨cb, eo, none⟩ = some (.int .i64 (st : Int)) → Calls Try.prog 23 #[.pointer (some ⟨tb, 1, none⟩), .int .i64 (c0 : Int)] W fun e w' => e = .returned (.int .i64 (st : Int)) ∧ w' = W := by
        intro st eo W he k1 k2
        subst he
        have := start_succ tb K cK cb (c0 - 1) st W (by omega) hk k1 k2
        rw [show ((c0 - 1 : Nat) : Int) + 1 = (c0 : Int) by omega] at this
        exact this
      obtain ⟨eo, heo⟩ : ∃ eo, eo = (c0 - 1) * 4 + 1 := ⟨_, rfl⟩
      rw [← heo] at c3
      have HE := hidden heo
      clear heo
      generalize r - s c0 = q at fw HT
      generalize s (c0 + 1) - s c0 = L at c2 HT
      generalize s c0 = st at fw HT c3 h6
      go_wp2
      go_region_held3 (fun W => W.cell? ⟨w.heap.size, 0, none⟩ = some (.pointer (some ⟨tb, 1, none⟩)) ∧ W.cell? ⟨tb, 1, none⟩ = some (.slice (some ⟨cb, 0, none⟩) K cK) ∧ W.cell? ⟨cb, c0 * 4, none⟩ = some (.slice (some ⟨ib c0, 0, none⟩) L (cp c0)) ∧ W.cell? ⟨cb, eo, none⟩ = some (.int .i64 (st : Int))) (go_keep)
        (first | (go_at_call 23; refine (F st eo _ HE.out ?_ ?_).mono ?_; (simp [*]); (simp [*]); rintro e w' ⟨rfl, rfl⟩))
      all_goals go_wp2
      all_goals (have ne := since_ne; refine wp_region_since (by kernel_rfl) (by kernel_rfl) ?_; (repeat (quiet_step ((go_at_call 28; first | exact since_of (HT _ (since_two _) _ _ _ (since_one _) (since_snd _)) | exact since_of (HT _ (since_two _) _ _ _ (since_snd _) (since_one _)))))); refine wpQuiet_nil ?_; intro _ hw'; obtain ⟨⟨wq, hbq⟩, hw''⟩ := hw'; subst hw'')
      all_goals go_wp2
      all_goals go_ret
      all_goals exact ⟨rfl, HB1.out.trans ((since_two ⟨_, hbq⟩).mono HB1.out.size)⟩

end

end Go.Proofs.Qxb6615804a
