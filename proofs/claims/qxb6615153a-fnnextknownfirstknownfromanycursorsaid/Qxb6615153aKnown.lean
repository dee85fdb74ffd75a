import Derived.Test.Qxb6615153aNext
import Derived.Deep.LoopGhost
namespace Go.Proofs.Qxb6615153a
open Go.RowKit
set_option linter.unusedVariables false
set_option linter.unusedSimpArgs false

/-- the order of positions -/
def Lt (L i L' i' : Nat) : Prop := L < L' ∨ (L = L' ∧ i < i')
/-- the item at (L, i) is known -/
def kn (ls : List (List Nat)) (L i : Nat) : Prop := ∃ m, ls[L]? = some m ∧ i < m.length ∧ m.getD i 0 % 2 = 1
/-- from (L, i) up to (L', i') none is known -/
def NoneFrom (ls : List (List Nat)) (L i L' i' : Nat) : Prop := ∀ x y, ¬ Lt x y L i → Lt x y L' i' → ¬ kn ls x y

theorem none_self (ls : List (List Nat)) (L i : Nat) : NoneFrom ls L i L i := fun _ _ h1 h2 => absurd h2 h1
theorem none_in {ls : List (List Nat)} {L0 i0 L i : Nat} {m : List Nat} (h : NoneFrom ls L0 i0 L i) (hm : ls[L]? = some m) (hk : ¬ m.getD i 0 % 2 = 1) : NoneFrom ls L0 i0 L (i + 1) := by
  intro x y h1 h2
  by_cases e : x = L ∧ y = i
  · rintro ⟨m', hm', _, hkn⟩
    rw [e.1, hm] at hm'
    obtain rfl := Option.some.inj hm'
    rw [e.2] at hkn
    exact hk hkn
  · exact h x y h1 (by unfold Lt at *; omega)
theorem none_out {ls : List (List Nat)} {L0 i0 L i : Nat} {m : List Nat} (h : NoneFrom ls L0 i0 L i) (hm : ls[L]? = some m) (hl : i + 1 = m.length) (hk : ¬ m.getD i 0 % 2 = 1) : NoneFrom ls L0 i0 (L + 1) 0 := by
  intro x y h1 h2
  rintro ⟨m', hm', hy, hkn⟩
  by_cases e : x = L
  · subst e
    rw [hm] at hm'
    obtain rfl := Option.some.inj hm'
    by_cases e2 : y = i
    · subst e2; exact hk hkn
    · exact h x y h1 (by unfold Lt at *; omega) ⟨m, hm, hy, hkn⟩
  · exact h x y h1 (by unfold Lt at *; omega) ⟨m', hm', hy, hkn⟩

/-- where the cursor's leaf lies -/
def ptr (ls : List (List Nat)) (nb : Nat → Nat) (L : Nat) : Option Addr := if L < ls.length then some ⟨nb L, 0, none⟩ else none

/-- what nextKnown answers -/
def Found (w : World) (ls : List (List Nat)) (r B gN gI : Nat) (idx : Nat → Nat → Int) (nb : Nat → Nat) (it : Nat → Nat → Nat) (L i : Nat) (e : Ending) (w' : World) : Prop :=
  Below B w w' ∧
  ((∃ p q m, ls[p]? = some m ∧ q < m.length ∧ m.getD q 0 % 2 = 1 ∧ ¬ Lt p q L i ∧ NoneFrom ls L i p q ∧ e = .returned (.agg #[.pointer (some ⟨r, 0, none⟩), .int .i32 ((p * 256 + sl m q : Nat) : Int)]) ∧ LayK w' ls r B gN gI (ls.length - 1) (upd idx p (sl m q) (q : Int)) nb it) ∨
   (NoneFrom ls L i ls.length 0 ∧ e = .returned (.agg #[.pointer none, .int .i32 0]) ∧ LayK w' ls r B gN gI (ls.length - 1) idx nb it))

theorem and_known {z : Nat} (h : z < 4294967296) : bits BinOp.and IntKind.u32 (z : Int) 1 = ((z % 2 : Nat) : Int) := by
  have := u32_and_nat z 1 h (by omega)
  rw [Nat.and_one_is_mod] at this
  exact this

/-- the loop's relation -/
structure Cur (w : World) (ls : List (List Nat)) (nb : Nat → Nat) (L0 i0 L i gk : Nat) (iv : Int) (wr : World) : Prop where
  le : L ≤ ls.length
  pos : ∀ m, ls[L]? = some m → i < m.length ∧ iv = (i : Int)
  num : gk = (if L < ls.length then (ls.length - L) * 129 - i else 0)
  cur : wr.heap[w.heap.size]? = some (.cells #[.pointer (ptr ls nb L), .int .i64 iv] 114 (0, 0))
  res : wr.heap[w.heap.size + 1]? = some (.cells #[.pointer none, .int .i32 0] 111 (0, 0))
  none : NoneFrom ls L0 i0 L i
  from0 : ¬ Lt L i L0 i0
  bel : Below w.heap.size w wr

theorem two_cells {w : World} {g t : Nat} {a b : Value} (h : w.heap[g]? = some (.cells #[a, b] t (0, 0))) : w.cell? ⟨g, 0, none⟩ = some a ∧ w.cell? ⟨g, 1, none⟩ = some b ∧ w.frozen? ⟨g, 0, none⟩ = false ∧ w.frozen? ⟨g, 1, none⟩ = false := by
  simp [World.cell?, World.frozen?, h]

theorem LayK.setRes {w : World} {ls : List (List Nat)} {r B gN gI k : Nat} {idx : Nat → Nat → Int} {nb : Nat → Nat} {it : Nat → Nat → Nat} (h : LayK w ls r B gN gI k idx nb it) {g o : Nat} {old : Value} (v : Value) (ho : o < 2) (hp : w.cell? ⟨g, o, none⟩ = some old) (hold : old = .pointer none ∨ ∃ z, old = .int .i32 z) : LayK (w.setCell ⟨g, o, none⟩ v) ls r B gN gI k idx nb it := by
  have hst := stays_set (v := v) hp (hold.elim .inl fun h => .inr (.inr ⟨h, by show o ≠ 2; omega⟩))
  intro j m hm
  obtain ⟨h1, aM, cM, aI, cI, ib, h2⟩ := h j m hm
  exact ⟨hst.1 _ _ h1 (by simp) (by simp) (by simp), aM, cM, aI, cI, ib, h2.carry hst (cell_set_ne h2.next (by simp <;> omega)) (fun s hs => cell_set_ne (h2.itI s hs).2.2.1 (by simp <;> omega))⟩

/-- the cursor moves on -/
theorem cur_next {w wr w6 : World} {ls : List (List Nat)} {nb : Nat → Nat} {L0 i0 L i gk : Nat} {iv : Int} (h : Cur w ls nb L0 i0 L i gk iv wr) (hL : L < ls.length)
    (hcur : w6.heap[w.heap.size]? = some (.cells #[.pointer (ptr ls nb L), .int .i64 iv] 114 (0, 0))) (hres : w6.heap[w.heap.size + 1]? = some (.cells #[.pointer none, .int .i32 0] 111 (0, 0))) (hb : Below w.heap.size w w6)
    {L2 i2 : Nat} {iv2 : Int} (h2 : L2 ≤ ls.length) (hp : ∀ m, ls[L2]? = some m → i2 < m.length ∧ iv2 = (i2 : Int)) (hn : NoneFrom ls L0 i0 L2 i2) (hf : ¬ Lt L2 i2 L0 i0) :
    Cur w ls nb L0 i0 L2 i2 (if L2 < ls.length then (ls.length - L2) * 129 - i2 else 0) iv2 ((w6.setCell ⟨w.heap.size, 0, none⟩ (.pointer (ptr ls nb L2))).setCell ⟨w.heap.size, 1, none⟩ (.int .i64 iv2)) := by
  refine ⟨h2, hp, rfl, ?_, ?_, hn, hf, (hb.setCell (by exact Nat.le_refl _) _).setCell (by exact Nat.le_refl _) _⟩
  · simp [World.setCell, Array.getElem?_modify, hcur]
  · rw [Below.heap_setCell _ _ _ _ (by simp), Below.heap_setCell _ _ _ _ (by simp)]; exact hres

theorem none_end {ls : List (List Nat)} {L0 i0 L i : Nat} (h : NoneFrom ls L0 i0 L i) (hl : ls.length ≤ L) : NoneFrom ls L0 i0 ls.length 0 := fun x y h1 h2 => h x y h1 (by unfold Lt at *; omega)

set_option maxRecDepth 100000 in
set_option maxHeartbeats 400000 in
theorem known47 {w : World} {ls : List (List Nat)} {r B gN gI : Nat} {idx : Nat → Nat → Int} {nb : Nat → Nat} {it : Nat → Nat → Nat} (h : LayK w ls r B gN gI (ls.length - 1) idx nb it) (hf : ∀ m ∈ ls, Fit m) (hr : ∀ m ∈ ls, ∀ z ∈ m, z < 4294967296) (hB : B ≤ w.heap.size) (hn : ls.length ≤ 4096)
    (sp : Option Addr) (L i : Nat) (iv : Int) (hL : L ≤ ls.length) (hi : ∀ m, ls[L]? = some m → i < m.length ∧ iv = (i : Int)) :
    Calls Try.prog 47 #[.pointer sp, .agg #[.pointer (ptr ls nb L), .int .i64 iv]] w (Found w ls r B gN gI idx nb it L i) := by
  have H : Hid (LayK w ls r B gN gI (ls.length - 1) idx nb it) := h
  have HF : Hid _ := hf
  have HR : Hid _ := hr
  have HC0 : Hid (Cur w ls nb L i L i (if L < ls.length then (ls.length - L) * 129 - i else 0) iv ((w.alloc (.cells #[.pointer (ptr ls nb L), .int .i64 iv] 114)).alloc (.cells #[.pointer none, .int .i32 0] 111))) := by
    refine ⟨hL, hi, rfl, ?_, ?_, none_self _ _ _, ?_, ((Below.refl _ _).alloc (Nat.le_refl _) _).alloc (by simp) _⟩
    · rw [Below.heap_alloc _ _ _ (by simp)]; exact heap_alloc_new w _
    · have := heap_alloc_new (w.alloc (.cells #[.pointer (ptr ls nb L), .int .i64 iv] 114)) (.cells #[.pointer none, .int .i32 0] 111)
      simpa using this
    · unfold Lt; omega
  clear h hf hr hi
  go_enter Try.func47, Try.ntmps47
  go_wp2
  go_loopg [5] (if L < ls.length then (ls.length - L) * 129 - i else 0) (fun gk v5 wr => ∃ (L' i' : Nat) (iv' : Int), Cur w ls nb L i L' i' gk iv' wr)
  case atStart => exact ⟨L, i, iv, HC0.out⟩
  case round =>
    clear HC0
    obtain ⟨L', i', iv', hc⟩ := hrel
    have HC : Hid _ := hc
    clear hc
    have hcur := HC.out.cur
    obtain ⟨q0, q1, q2, q3⟩ := two_cells hcur
    obtain ⟨t0, t1, t2, t3⟩ := two_cells HC.out.res
    have hsz := HC.out.bel.size
    have hgl := lt_of_block HC.out.res
    clear hcur
    by_cases hend : L' < ls.length
    · obtain ⟨m, hm⟩ : ∃ m, ls[L']? = some m := ⟨_, List.getElem?_eq_getElem hend⟩
      have hmm := List.mem_of_getElem? hm
      have hfm := HF.out m hmm
      have hroom := hfm.room
      have hpos := HC.out.pos m hm
      have e0 : ptr ls nb L' = some ⟨nb L', 0, none⟩ := by unfold ptr; rw [if_pos hend]
      rw [e0] at q0
      rw [hpos.2] at q1
      have hlay := H.out.below HC.out.bel (Nat.le_refl _)
      obtain ⟨_, aM, cM, aI, cI, ib, hleaf⟩ := hlay L' m hm
      obtain ⟨z, hz1, c1, hz2, hz3, hz4, hzm⟩ := leaf_cells hleaf hfm (HR.out m hmm) hpos.1
      clear hz3 hz4
      have c2 := hleaf.marks
      have i1 : (i' : Int) < (m.length : Int) := by have := hpos.1; omega
      have hand := and_known hz1
      have ezm : m.getD i' 0 = z := by rw [List.getD_eq_getElem?_getD, hzm]; rfl
      have HL : Hid _ := hlay
      have HLF : Hid _ := hleaf
      have HFM : Hid _ := hfm
      have HP : Hid _ := hpos
      have HM : Hid _ := hm
      have HZ : Hid _ := ezm
      clear hlay hleaf hfm hpos hm ezm hmm e0 hzm
      by_cases hk : z % 2 = 1
      · rw [hk] at hand
        have HKN : Hid _ := hk
        clear hk
        go_wp2
        go_quiet (fail)
        go_wp2_with fail
        refine (item50 (LayK.drewN HL.out nq) HF.out HR.out (by have := HC.out.bel.size; show B ≤ wr.heap.size; omega) HM.out HP.out.1).mono ?_
        rintro e w5 ⟨rfl, hlay5, hk5, hB5, hl5⟩
        obtain ⟨_, aM5, cM5, aI5, cI5, ib5, hleaf5⟩ := hlay5 L' m HM.out
        have hsl := HFM.out.lt i' HP.out.1
        have hit5 := hleaf5.itI _ hsl
        have hitl : it L' (sl m i') < w.heap.size := by
          obtain ⟨_, _, _, _, _, _, hl0⟩ := H.out L' m HM.out
          exact World.block_lt_of_cell? w _ (hl0.itI _ hsl).1
        have hres5 : w5.heap[w.heap.size + 1]? = some (.cells #[.pointer none, .int .i32 0] 111 (0, 0)) := (hk5.block _ (by exact hgl) (by omega)).trans HC.out.res
        have hbel5 : Below B w w5 := hk5.below (below_like (HC.out.bel.mono hB) ⟨rfl, rfl, rfl, rfl⟩) (by have := HC.out.bel.size; show B ≤ wr.heap.size; omega) (fun b hb hS => by omega)
        have HI5 : Hid _ := hit5
        have HR5 : Hid _ := hres5
        have HL5 : Hid _ := hlay5
        have HBL5 : Hid _ := hbel5
        clear hlay5 hk5 hleaf5 hit5 hres5 hbel5 q0 q1 q2 q3 t0 t1 t2 t3 c1 c2 hand
        go_wp2_with fail
        refine (first51 _ r _ _ w5 HI5.out).mono ?_
        rintro e w6 ⟨rfl, hb6⟩
        have hres6 := (hb6.block _ (lt_of_block HR5.out)).trans HR5.out
        obtain ⟨s0, s1, s2, s3⟩ := two_cells hres6
        have hbel6 : Below B w w6 := HBL5.out.trans (hb6.mono (by have := HBL5.out.size; omega))
        have HL6 : Hid _ := LayK.below HL5.out hb6 (Nat.le_refl _)
        have HB6 : Hid _ := hbel6
        have HR6 : Hid _ := hres6
        clear hb6 hbel6 hres6
        go_wp2
        refine bodyPost_ret (v := .agg #[.pointer (some ⟨r, 0, none⟩), .int .i32 ((L' : Int) * 256 + (sl m i' : Int))]) (by simp [results, Try.results47, go_sem, s0, s1]) rfl ⟨?_, .inl ⟨L', i', m, HM.out, HP.out.1, by rw [HZ.out]; exact HKN.out, HC.out.from0, HC.out.none, by simp, ?_⟩⟩
        · exact (HB6.out.setCell (by show B ≤ w.heap.size + 1; omega) _).setCell (by show B ≤ w.heap.size + 1; omega) _
        · exact LayK.setRes (LayK.setRes HL6.out _ (by omega) s0 (.inl rfl)) _ (by omega) (cell_set_ne s1 (by simp)) (.inr ⟨_, rfl⟩)
      · have hand0 : bits BinOp.and IntKind.u32 (z : Int) 1 = 0 := by rw [hand]; omega
        clear hand
        by_cases hlast : i' + 1 < m.length
        · go_wp2
          go_quiet (fail)
          go_wp2_with fail
          refine (next49_in (LeafIs.below HLF.out (Like.below (w := wr) (w' := wr.drewN nq) ⟨rfl, rfl, rfl, rfl⟩ wr.heap.size) (Nat.le_refl _)) HFM.out hlast).mono ?_
          rintro e w6 ⟨rfl, hb6⟩
          have hb6' : Below wr.heap.size wr w6 := (Like.below (w := wr) (w' := wr.drewN nq) ⟨rfl, rfl, rfl, rfl⟩ wr.heap.size).trans hb6
          have hcur6 := (hb6'.block _ (lt_of_block HC.out.cur)).trans HC.out.cur
          have hres6 := (hb6'.block _ (lt_of_block HC.out.res)).trans HC.out.res
          have hbw6 := HC.out.bel.trans (hb6'.mono HC.out.bel.size)
          obtain ⟨s0, s1, s2, s3⟩ := two_cells hcur6
          have HC6 : Hid _ := cur_next HC.out hend hcur6 hres6 hbw6 (L2 := L') (i2 := i' + 1) (iv2 := (i' : Int) + 1) (by omega) (fun m' hm' => by rw [HM.out] at hm'; obtain rfl := Option.some.inj hm'; exact ⟨hlast, by omega⟩) (none_in HC.out.none HM.out (by rw [HZ.out]; exact hk)) (by have := HC.out.from0; unfold Lt at *; omega)
          have hnum := HC.out.num
          rw [if_pos hend] at hnum
          have HNUM : Hid _ := hnum
          have e0 : ptr ls nb L' = some ⟨nb L', 0, none⟩ := by unfold ptr; rw [if_pos hend]
          rw [if_pos hend, e0] at HC6
          rw [e0] at s0
          clear hb6 hb6' hcur6 hres6 hbw6 q0 q1 q2 q3 t0 t1 t2 t3 c1 c2 hand0 hnum e0
          go_wp2
          go_roundg ((ls.length - L') * 129 - (i' + 1))
          case rel => exact ⟨L', i' + 1, _, HC6.out⟩
          case measure => rw [HNUM.out]; omega
        · have hlast' : i' + 1 = m.length := by have := HP.out.1; omega
          go_wp2
          go_quiet (fail)
          go_wp2_with fail
          refine (next49_out (LeafIs.below HLF.out (Like.below (w := wr) (w' := wr.drewN nq) ⟨rfl, rfl, rfl, rfl⟩ wr.heap.size) (Nat.le_refl _)) HFM.out hlast').mono ?_
          rintro e w6 ⟨rfl, hb6⟩
          have hb6' : Below wr.heap.size wr w6 := (Like.below (w := wr) (w' := wr.drewN nq) ⟨rfl, rfl, rfl, rfl⟩ wr.heap.size).trans hb6
          have hcur6 := (hb6'.block _ (lt_of_block HC.out.cur)).trans HC.out.cur
          have hres6 := (hb6'.block _ (lt_of_block HC.out.res)).trans HC.out.res
          have hbw6 := HC.out.bel.trans (hb6'.mono HC.out.bel.size)
          obtain ⟨s0, s1, s2, s3⟩ := two_cells hcur6
          have HC6 : Hid _ := cur_next HC.out hend hcur6 hres6 hbw6 (L2 := L' + 1) (i2 := 0) (iv2 := 0) (by omega) (fun m' hm' => ⟨(HF.out m' (List.mem_of_getElem? hm')).pos, rfl⟩) (none_out HC.out.none HM.out hlast' (by rw [HZ.out]; exact hk)) (by have := HC.out.from0; unfold Lt at *; omega)
          have hnum := HC.out.num
          rw [if_pos hend] at hnum
          have HNUM : Hid _ := hnum
          have e0 : ptr ls nb L' = some ⟨nb L', 0, none⟩ := by unfold ptr; rw [if_pos hend]
          have e1 : (if L' < ls.length - 1 then some (⟨nb (L' + 1), 0, none⟩ : Addr) else none) = ptr ls nb (L' + 1) := by
            unfold ptr
            by_cases h : L' + 1 < ls.length
            · rw [if_pos h, if_pos (by omega)]
            · rw [if_neg h, if_neg (by omega)]
          rw [e0] at s0
          rw [e1]
          clear hb6 hb6' hcur6 hres6 hbw6 q0 q1 q2 q3 t0 t1 t2 t3 c1 c2 hand0 hnum e0 e1 hlast'
          go_wp2
          go_roundg (if L' + 1 < ls.length then (ls.length - (L' + 1)) * 129 - 0 else 0)
          case rel => exact ⟨L' + 1, 0, _, HC6.out⟩
          case measure => rw [HNUM.out]; have := HP.out.1; split <;> omega
    · have e0 : ptr ls nb L' = none := by unfold ptr; rw [if_neg hend]
      rw [e0] at q0
      clear e0
      go_wp2
      have HB2 := (HC.out.bel.setCell (p := ⟨w.heap.size + 1, 0, none⟩) (by simp) (.pointer none)).setCell (p := ⟨w.heap.size + 1, 1, none⟩) (by simp) (.int .i32 0)
      refine bodyPost_ret (v := .agg #[.pointer none, .int .i32 0]) (by simp [results, Try.results47, go_sem, t0, t1]) rfl ⟨HB2.mono hB, .inr ⟨none_end HC.out.none (by omega), rfl, LayK.below H.out HB2 (Nat.le_refl _)⟩⟩

end Go.Proofs.Qxb6615153a
