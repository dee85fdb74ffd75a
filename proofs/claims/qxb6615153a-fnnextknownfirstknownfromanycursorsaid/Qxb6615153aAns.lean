import Derived.Test.Qxb6615153aKept
namespace Go.Proofs.Qxb6615153a
open Go.RowKit
set_option linter.unusedVariables false
set_option linter.unusedSimpArgs false

/-- the answer from (L, i): the position (p, q), or the end (n, 0) -/
structure Ans (ls : List (List Nat)) (r n L i p q : Nat) (o : Option Addr) (x : Int) (idx idx' : Nat → Nat → Int) : Prop where
  src : (∃ m, ls[p]? = some m ∧ q < m.length ∧ m.getD q 0 % 2 = 1 ∧ ¬ Lt p q L i ∧ NoneFrom ls L i p q ∧ o = some ⟨r, 0, none⟩ ∧ x = ((p * 256 + sl m q : Nat) : Int)) ∨ (p = n ∧ q = 0 ∧ NoneFrom ls L i n 0 ∧ o = none ∧ x = 0)
  hint : ∀ L m i, ls[L]? = some m → i < m.length → idx' L (sl m i) = if L = p ∧ i = q then (i : Int) else idx L (sl m i)

def Found3 (w : World) (ls : List (List Nat)) (r B gN gI : Nat) (idx : Nat → Nat → Int) (nb : Nat → Nat) (it : Nat → Nat → Nat) (L i : Nat) (e : Ending) (w' : World) : Prop :=
  ∃ p q o x idx', e = .returned (.tuple #[.pointer o, .int .i32 x]) ∧ Ans ls r ls.length L i p q o x idx idx' ∧ LayK w' ls r B gN gI (ls.length - 1) idx' nb it ∧ Below B w w'

theorem zz30' {w : World} {ls : List (List Nat)} {r B gN gI : Nat} {idx : Nat → Nat → Int} {nb : Nat → Nat} {it : Nat → Nat → Nat} (h : LayK w ls r B gN gI (ls.length - 1) idx nb it) (hf : ∀ m ∈ ls, Fit m) (hr : ∀ m ∈ ls, ∀ z ∈ m, z < 4294967296) (hB : B ≤ w.heap.size) (hn : ls.length ≤ 4096)
    (L i : Nat) (iv : Int) (hat : At ls L i iv) :
    Calls Try.prog 30 #[.pointer (ptr ls nb L), .int .i64 iv] w (Found3 w ls r B gN gI idx nb it L i) := by
  refine (zz30 h hf hr hB hn L i iv hat.le hat.pos).mono ?_
  rintro e w2 ⟨hb2, ⟨p, q, m, hm, hq, hk, hlt, hnone, rfl, hlay⟩ | ⟨hnone, rfl, hlay⟩⟩
  · refine ⟨p, q, _, _, _, rfl, ⟨.inl ⟨m, hm, hq, hk, hlt, hnone, rfl, rfl⟩, fun L' m' i' hm' hi' => ?_⟩, hlay, hb2⟩
    unfold upd
    by_cases e1 : L' = p
    · subst e1
      rw [hm] at hm'
      obtain rfl := Option.some.inj hm'
      by_cases e2 : i' = q
      · subst e2; simp
      · have e3 : sl m i' ≠ sl m q := fun h => e2 ((hf m (List.mem_of_getElem? hm)).inj i' q hi' hq h)
        simp [e2, e3]
    · simp [e1]
  · refine ⟨ls.length, 0, _, _, _, rfl, ⟨.inr ⟨rfl, rfl, hnone, rfl, rfl⟩, fun L' m' i' hm' hi' => ?_⟩, hlay, hb2⟩
    have := (List.getElem?_eq_some_iff.1 hm').1
    rw [if_neg (by omega)]

theorem first32_any (a : Option Addr) (n c : Nat) (ls : List (List Nat)) (L i : Nat) (iv : Int) (r p q : Nat) (o : Option Addr) (x : Int) (idx idx' : Nat → Nat → Int) (w : World) (hs : LRow w a n ls) (hn : n ≤ 4096) (hf : ∀ m ∈ ls, Fit m) (hat : At ls L i iv) (h : Ans ls r n L i p q o x idx idx') :
    Calls Try.prog 32 #[.slice a n c, .int .i64 (L : Int), .int .i64 iv, .pointer (some ⟨r, 0, none⟩), .pointer o, .int .i32 x] w fun e w' => e = .returned (.tuple #[.bool true, .int .i64 (p : Int), .int .i64 (q : Int)]) ∧ w' = w := by
  rcases h.src with ⟨m, hm, hq, hk, hlt, hno, rfl, hx⟩ | ⟨rfl, rfl, hno, rfl, rfl⟩
  · exact first32_found a n c ls L i iv r p q m x w hs hn hf hat hm hq hk hlt hno hx
  · exact first32_none a p c ls L i iv r w hs hn hf hat hno

/-- a valid position, as posValid says it -/
theorem at_of_valid {ls : List (List Nat)} {L i : Int} (h : validB ls L i = true) : ∃ L' i' : Nat, L = (L' : Int) ∧ At ls L' i' i ∧ (L' = ls.length → i' = 0) := by
  unfold validB at h
  simp at h
  obtain ⟨⟨h0, h1⟩, h2⟩ := h
  obtain ⟨k, rfl⟩ : ∃ k : Nat, L = k := Int.eq_ofNat_of_zero_le h0
  by_cases hk : k = ls.length
  · subst hk
    refine ⟨ls.length, 0, rfl, ⟨Nat.le_refl _, fun m hm => ?_⟩, fun _ => rfl⟩
    exact absurd (List.getElem?_eq_some_iff.1 hm).1 (by omega)
  · have h3 : 0 ≤ i ∧ i < ((ls.getD k []).length : Int) := by
      rcases h2 with h2 | h2
      · omega
      · simpa using h2
    obtain ⟨j, rfl⟩ : ∃ j : Nat, i = j := Int.eq_ofNat_of_zero_le h3.1
    refine ⟨k, j, rfl, ⟨by omega, fun m hm => ?_⟩, fun h => absurd h hk⟩
    have h4 := h3.2
    rw [List.getD_eq_getElem?_getD, hm] at h4
    simp at h4
    exact ⟨h4, rfl⟩

/-- posBefore says 'no': the first is not before the second -/
theorem nlt_of_before {ls : List (List Nat)} {p q L i : Nat} {qv iv : Int} (hat : At ls L i iv) (h0 : L = ls.length → i = 0) (hp : p ≤ ls.length) (hq : p < ls.length → qv = (q : Int)) (h : beforeB (p : Int) qv (L : Int) iv (ls.length : Int) = false) : ¬ Lt p q L i := by
  by_cases hL : L < ls.length
  · obtain ⟨m, hm⟩ : ∃ m, ls[L]? = some m := ⟨_, List.getElem?_eq_getElem hL⟩
    obtain ⟨_, rfl⟩ := hat.pos m hm
    by_cases hp' : p < ls.length
    · rw [hq hp'] at h
      intro hlt
      rw [(before_iff hL).2 hlt] at h
      cases h
    · unfold Lt; omega
  · have e : L = ls.length := by have := hat.le; omega
    have hi := h0 e
    subst e
    subst hi
    unfold beforeB at h
    by_cases hp' : p = ls.length
    · unfold Lt; omega
    · rw [if_neg (by omega)] at h
      simp at h
      omega

/-- two answers, the second from a later place not behind the first answer: they are one -/
theorem ans_same {ls : List (List Nat)} {r n L i p q L' i' p' q' : Nat} {o o' : Option Addr} {x x' : Int} {idx idx' idx'' : Nat → Nat → Int} (hl : ls.length = n) (h : Ans ls r n L i p q o x idx idx') (h' : Ans ls r n L' i' p' q' o' x' idx' idx'') (hle : ¬ Lt L' i' L i) (hb : ¬ Lt p q L' i') : o = o' ∧ x = x' := by
  rcases h.src with ⟨m, hm, hq, hk, hlt, hno, rfl, rfl⟩ | ⟨rfl, rfl, hno, rfl, rfl⟩
  · have hpn := (List.getElem?_eq_some_iff.1 hm).1
    rcases h'.src with ⟨m', hm', hq', hk', hlt', hno', rfl, rfl⟩ | ⟨rfl, rfl, hno', rfl, rfl⟩
    · have h1 : ¬ Lt p q p' q' := fun hh => hno' p q hb hh ⟨m, hm, hq, hk⟩
      have h2 : ¬ Lt p' q' p q := fun hh => hno p' q' (by unfold Lt at *; omega) hh ⟨m', hm', hq', hk'⟩
      have e : p = p' ∧ q = q' := by unfold Lt at *; omega
      obtain ⟨rfl, rfl⟩ := e
      rw [hm] at hm'
      obtain rfl := Option.some.inj hm'
      exact ⟨rfl, rfl⟩
    · exact absurd ⟨m, hm, hq, hk⟩ (hno' p q hb (.inl (by omega)))
  · rcases h'.src with ⟨m', hm', hq', hk', hlt', hno', rfl, rfl⟩ | ⟨_, _, hno', rfl, rfl⟩
    · have hpn := (List.getElem?_eq_some_iff.1 hm').1
      exact absurd ⟨m', hm', hq', hk'⟩ (hno p' q' (by unfold Lt at *; omega) (.inl (by omega)))
    · exact ⟨rfl, rfl⟩

end Go.Proofs.Qxb6615153a
