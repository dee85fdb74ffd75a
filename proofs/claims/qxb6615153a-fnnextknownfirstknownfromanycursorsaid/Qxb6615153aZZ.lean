import Derived.Test.Qxb6615153aKnown
namespace Go.Proofs.Qxb6615153a
open Go.RowKit
set_option linter.unusedVariables false
set_option linter.unusedSimpArgs false

theorem leafAt31 {w : World} {ls : List (List Nat)} {r B gN gI k : Nat} {idx : Nat → Nat → Int} {nb : Nat → Nat} {it : Nat → Nat → Nat} (h : LayK w ls r B gN gI k idx nb it) (n L : Nat) (hl : ls.length = n) (hn : n ≤ 4096) (hL : L ≤ n) :
    Calls Try.prog 31 #[.slice (some ⟨gN, 0, none⟩) n n, .int .i64 (L : Int)] w fun e w' => e = .returned (.pointer (ptr ls nb L)) ∧ w' = w := by
  by_cases hlt : L < n
  · have c1 := (h.node (show L < ls.length by omega)).1
    have e0 : ptr ls nb L = some ⟨nb L, 0, none⟩ := by unfold ptr; rw [if_pos (by omega)]
    rw [e0]
    clear h e0 hl
    go_enter Try.func31, Try.ntmps31
    go_wp2
    go_ret
    exact ⟨rfl, rfl⟩
  · have e0 : ptr ls nb L = none := by unfold ptr; rw [if_neg (by omega)]
    rw [e0]
    clear h e0 hl
    go_enter Try.func31, Try.ntmps31
    go_wp2
    go_ret
    exact ⟨rfl, rfl⟩

/-- what ZZnextKnown answers -/
def Found2 (w : World) (ls : List (List Nat)) (r B gN gI : Nat) (idx : Nat → Nat → Int) (nb : Nat → Nat) (it : Nat → Nat → Nat) (L i : Nat) (e : Ending) (w' : World) : Prop :=
  Below B w w' ∧
  ((∃ p q m, ls[p]? = some m ∧ q < m.length ∧ m.getD q 0 % 2 = 1 ∧ ¬ Lt p q L i ∧ NoneFrom ls L i p q ∧ e = .returned (.tuple #[.pointer (some ⟨r, 0, none⟩), .int .i32 ((p * 256 + sl m q : Nat) : Int)]) ∧ LayK w' ls r B gN gI (ls.length - 1) (upd idx p (sl m q) (q : Int)) nb it) ∨
   (NoneFrom ls L i ls.length 0 ∧ e = .returned (.tuple #[.pointer none, .int .i32 0]) ∧ LayK w' ls r B gN gI (ls.length - 1) idx nb it))

set_option maxRecDepth 100000 in
set_option maxHeartbeats 1000000 in
theorem zz30 {w : World} {ls : List (List Nat)} {r B gN gI : Nat} {idx : Nat → Nat → Int} {nb : Nat → Nat} {it : Nat → Nat → Nat} (h : LayK w ls r B gN gI (ls.length - 1) idx nb it) (hf : ∀ m ∈ ls, Fit m) (hr : ∀ m ∈ ls, ∀ z ∈ m, z < 4294967296) (hB : B ≤ w.heap.size) (hn : ls.length ≤ 4096)
    (L i : Nat) (iv : Int) (hL : L ≤ ls.length) (hi : ∀ m, ls[L]? = some m → i < m.length ∧ iv = (i : Int)) :
    Calls Try.prog 30 #[.pointer (ptr ls nb L), .int .i64 iv] w (Found2 w ls r B gN gI idx nb it L i) := by
  have H : Hid (LayK w ls r B gN gI (ls.length - 1) idx nb it) := h
  have HF : Hid _ := hf
  have HR : Hid _ := hr
  have HI : Hid _ := hi
  clear h hf hr hi
  go_enter Try.func30, Try.ntmps30
  go_wp2_with fail
  refine (known47 (LayK.below H.out ((Below.refl w.heap.size w).alloc (Nat.le_refl _) _) (Nat.le_refl _)) HF.out HR.out (by simp; omega) hn _ L i iv hL HI.out).mono ?_
  rintro e w2 ⟨hb2, ⟨p, q, m, hm, hq, hk, hlt, hnone, rfl, hlay⟩ | ⟨hnone, rfl, hlay⟩⟩
  · have HB2 : Hid (Below B w w2) := ((Below.refl B w).alloc hB _).trans hb2
    have HLY : Hid _ := hlay
    have HALL : Hid _ := And.intro hm (And.intro hq (And.intro hk (And.intro hlt hnone)))
    clear hb2 hlay hm hq hk hlt hnone
    go_wp2
    go_quiet (fail)
    go_wp2
    go_ret2
    obtain ⟨hm, hq, hk, hlt, hnone⟩ := HALL.out
    have hb3 := fun o n => below_dn ((Below.refl w2.heap.size w2).alloc (Nat.le_refl _) o) n
    exact ⟨HB2.out.trans ((hb3 _ _).mono (by have := HB2.out.size; omega)), .inl ⟨p, q, m, hm, hq, hk, hlt, hnone, by simp, LayK.below HLY.out (hb3 _ _) (Nat.le_refl _)⟩⟩
  · have HB2 : Hid (Below B w w2) := ((Below.refl B w).alloc hB _).trans hb2
    have HLY : Hid _ := hlay
    have HALL : Hid _ := hnone
    clear hb2 hlay hnone
    go_wp2
    go_quiet (fail)
    go_wp2
    go_ret2
    have hb3 := fun o n => below_dn ((Below.refl w2.heap.size w2).alloc (Nat.le_refl _) o) n
    exact ⟨HB2.out.trans ((hb3 _ _).mono (by have := HB2.out.size; omega)), .inr ⟨HALL.out, by simp, LayK.below HLY.out (hb3 _ _) (Nat.le_refl _)⟩⟩

end Go.Proofs.Qxb6615153a
