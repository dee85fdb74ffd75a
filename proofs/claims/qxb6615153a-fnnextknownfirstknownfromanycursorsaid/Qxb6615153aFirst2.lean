import Derived.Test.Qxb6615153aFirst
import Derived.LaidEqlPtr
namespace Go.Proofs.Qxb6615153a
open Go.RowKit
set_option linter.unusedVariables false
set_option linter.unusedSimpArgs false

theorem before_iff {L i p q n : Nat} (hp : p < n) : beforeB (L : Int) (i : Int) (p : Int) (q : Int) (n : Int) = true ↔ Lt L i p q := by
  unfold beforeB Lt
  by_cases h : L = p
  · subst h
    rw [if_pos rfl, if_neg (by omega)]
    simp
  · rw [if_neg (by omega)]
    simp; omega

theorem before_end {i : Int} {p q n : Nat} (hp : p < n) : beforeB (n : Int) i (p : Int) (q : Int) (n : Int) = false := by
  unfold beforeB
  rw [if_neg (by omega)]
  simp; omega

theorem i64_and255 (n : Int) : bits .and .i64 n 255 = n % 256 := by
  have h255 : (BitVec.ofInt 64 255).toNat = 2 ^ 8 - 1 := by decide
  have key : (BitVec.ofInt 64 n &&& BitVec.ofInt 64 255).toNat = (n % ((2 ^ 64 : Nat) : Int)).toNat % 2 ^ 8 := by
    rw [BitVec.toNat_and, BitVec.toNat_ofInt, h255, Nat.and_two_pow_sub_one_eq_mod]
  show IntKind.i64.wrap ((BitVec.ofInt 64 n &&& BitVec.ofInt 64 255).toNat : Nat) = n % 256
  rw [key, IntKind.wrap_i64]
  omega

theorem and255 {p s : Nat} (hs : s < 128) (hp : p < 4096) : bits BinOp.and IntKind.i64 ((p * 256 + s : Nat) : Int) 255 = (s : Int) := by
  rw [i64_and255]; omega

theorem info99 : (Try.prog.info? 99).isSome = true := by kernel_rfl
theorem neq48 (a : Addr) (W : World) : (binOp .neq 48 (.pointer (some a)) (.pointer (some a))).run Try.prog W = .ok (.bool false) W := by
  obtain ⟨j, hj⟩ := Option.isSome_iff_exists.1 info99
  have h : ∀ d : Nat, (Op.equalIn (d + 1) 48 (.pointer (some a)) (.pointer (some a))).run Try.prog W = .ok true W := fun d => by
    simp [Op.equalIn, run_underlying Try.underlying48, sizeOf, typeInfo, hj, run_sameAddr_same]
  simp only [binOp]
  simp [Op.equal, Op.maxDepth, h 9999]

set_option maxRecDepth 100000 in
set_option maxHeartbeats 1000000 in
theorem first32_found (a : Option Addr) (n c : Nat) (ls : List (List Nat)) (L i : Nat) (iv : Int) (r : Nat) (p q : Nat) (m0 : List Nat) (x : Int) (w : World) (hs : LRow w a n ls) (hn : n ≤ 4096) (hf : ∀ m ∈ ls, Fit m) (hat : At ls L i iv)
    (hm0 : ls[p]? = some m0) (hq : q < m0.length) (hkn : m0.getD q 0 % 2 = 1) (hfr : ¬ Lt p q L i) (hno : NoneFrom ls L i p q) (hx : x = ((p * 256 + sl m0 q : Nat) : Int)) :
    Calls Try.prog 32 #[.slice a n c, .int .i64 (L : Int), .int .i64 iv, .pointer (some ⟨r, 0, none⟩), .pointer (some ⟨r, 0, none⟩), .int .i32 x] w fun e w' => e = .returned (.tuple #[.bool true, .int .i64 (p : Int), .int .i64 (q : Int)]) ∧ w' = w := by
  have hl := hs.1
  have hpn : p < n := by have := (List.getElem?_eq_some_iff.1 hm0).1; omega
  have hf0 := hf m0 (List.mem_of_getElem? hm0)
  have hs0 := hf0.lt q hq
  have hroom0 := hf0.room
  obtain ⟨b, off, aL, cL, b2, off2, z, rfl, ha2, c1, c2, hz, hzb, hu⟩ := LRow.at_pos hs hpn hm0 hq
  have HU : Hid (URow w aL m0) := hu
  subst ha2
  rw [hz] at hkn
  have hand : bits BinOp.and IntKind.u32 (z : Int) 1 = 1 := by rw [and_known hzb, hkn]; rfl
  have hx0 : ¬ x < 0 := by omega
  have hxd : decide (x < 0) = false := by simpa using hx0
  have hxb : x < 1048577 := by omega
  have hsh : x / 256 = (p : Int) := by omega
  have hmask : bits BinOp.and IntKind.i64 x 255 = (sl m0 q : Int) := by rw [hx]; exact and255 (by omega) (by omega)
  have HS : Hid (LRow w (some ⟨b, off, none⟩) n ls) := hs
  have HF : Hid _ := hf
  have HF0 : Hid _ := hf0
  have HA : Hid _ := hat
  have HN : Hid _ := hno
  have HFR : Hid _ := hfr
  have HM0 : Hid _ := hm0
  clear hs hf hat hno hfr hm0 hu hz hkn hx hf0
  have hpq := neq48 ⟨r, 0, none⟩
  go_enter Try.func32, Try.ntmps32
  have hLp : L ≤ p := by have this : ¬ Lt p q L i := HFR.out; unfold Lt at this; omega
  obtain ⟨m1, hm1⟩ : ∃ m1, ls[L]? = some m1 := ⟨_, List.getElem?_eq_getElem (by omega)⟩
  obtain ⟨hi1, hiv⟩ := HA.out.pos m1 hm1
  subst hiv
  have HM1 : Hid _ := And.intro hm1 hi1
  clear hm1 hi1
  have hq0 : decide ((q : Int) < 0) = false := by simp
  go_wp2_with fail
  refine (index36 _ cL m0 q w HU.out HF0.out hq _ rfl).mono ?_
  rintro e w2 ⟨rfl, rfl⟩
  go_wp2_with fail
  refine (before27 _ _ _ _ _ _).mono ?_
  rintro e w2 ⟨rfl, rfl⟩
  have hb0 : beforeB (p : Int) (q : Int) (L : Int) (i : Int) (n : Int) = false := by
    cases h : beforeB (p : Int) (q : Int) (L : Int) (i : Int) (n : Int) with
    | false => rfl
    | true => exact absurd ((before_iff (by omega)).1 h) HFR.out
  rw [hb0]
  clear hb0 hand c1 c2 hpq hsh hmask hxd hx0 hxb
  go_wp2
  go_loop [21, 22] (fun t u => ∃ (L' i' : Nat), t = .int .i64 (L' : Int) ∧ u = .int .i64 (i' : Int) ∧ (∀ m, ls[L']? = some m → i' < m.length) ∧ ¬ Lt L' i' L i ∧ ¬ Lt p q L' i') (fun t u => meas n t u)
  case atStart => exact ⟨L, i, rfl, rfl, fun m hm => by have h := HM1.out; rw [h.1] at hm; obtain rfl := Option.some.inj hm; exact h.2, by unfold Lt; omega, HFR.out⟩
  case round =>
    obtain ⟨L', i', rfl, rfl, hpos, hfr, hto⟩ := hrel
    have HTO : Hid _ := hto
    have HFR' : Hid _ := hfr
    have HPOS : Hid _ := hpos
    clear hto hfr hpos
    have hLp' : L' ≤ p := by have this : ¬ Lt p q L' i' := HTO.out; unfold Lt at this; omega
    obtain ⟨m, hm⟩ : ∃ m, ls[L']? = some m := ⟨_, List.getElem?_eq_getElem (by omega)⟩
    have hi' := HPOS.out m hm
    have hroom := (HF.out m (List.mem_of_getElem? hm)).room
    have HM : Hid _ := hm
    clear hm
    by_cases hlt : Lt L' i' p q
    · obtain ⟨b', off', aL, cL', b2', off2', z', ha', rfl, c1, c2, hz, hzb', _⟩ := LRow.at_pos HS.out (show L' < n by omega) HM.out hi'
      simp only [Option.some.injEq, Addr.mk.injEq, and_true] at ha'
      obtain ⟨rfl, rfl⟩ := ha'
      have hk : z' % 2 = 0 := by
        have h1 := HN.out L' i' HFR'.out hlt
        have h2 : ¬ m.getD i' 0 % 2 = 1 := fun h => h1 ⟨m, HM.out, hi', h⟩
        rw [hz] at h2; omega
      have hand : bits BinOp.and IntKind.u32 (z' : Int) 1 = 0 := by rw [and_known hzb', hk]; rfl
      have hb1 : beforeB (L' : Int) (i' : Int) (p : Int) (q : Int) (n : Int) = true := (before_iff hpn).2 hlt
      clear hz hk
      go_wp2_with fail
      refine (before27 _ _ _ _ _ _).mono ?_
      rintro e w2 ⟨rfl, rfl⟩
      rw [hb1]
      by_cases hlast : i' + 1 < m.length
      · go_wp2_with fail
        refine (step37_in _ n c ls L' i' m _ HS.out (by omega) HM.out hlast (by omega) hn).mono ?_
        rintro e w2 ⟨rfl, rfl⟩
        clear c1 c2 hand hb1
        go_wp2
        go_round
        case rel => exact ⟨L', i' + 1, rfl, rfl, fun m' hm' => by rw [HM.out] at hm'; obtain rfl := Option.some.inj hm'; exact hlast, nlt_in HFR'.out, by unfold Lt at hlt ⊢; omega⟩
        case measure => simp [meas, intOf]; omega
      · go_wp2_with fail
        refine (step37_out _ n c ls L' i' m _ HS.out (by omega) HM.out hlast (by omega) hn hi').mono ?_
        rintro e w2 ⟨rfl, rfl⟩
        clear c1 c2 hand hb1
        have hpL : L' ≠ p := by
          rintro rfl
          have e1 := HM.out
          rw [HM0.out] at e1
          obtain rfl := Option.some.inj e1
          unfold Lt at hlt
          omega
        go_wp2
        go_round
        case rel => exact ⟨L' + 1, 0, by go_num, rfl, fun m' hm' => (HF.out m' (List.mem_of_getElem? hm')).pos, nlt_out HFR'.out, by unfold Lt at hlt ⊢; omega⟩
        case measure => simp [meas, intOf]; omega
    · have hb1 : beforeB (L' : Int) (i' : Int) (p : Int) (q : Int) (n : Int) = false := by
        cases h : beforeB (L' : Int) (i' : Int) (p : Int) (q : Int) (n : Int) with
        | false => rfl
        | true => exact absurd ((before_iff hpn).1 h) hlt
      go_wp2_with fail
      refine (before27 _ _ _ _ _ _).mono ?_
      rintro e w2 ⟨rfl, rfl⟩
      rw [hb1]
      clear hb1
      go_wp2
      go_ret3
      exact ⟨rfl, rfl⟩

end Go.Proofs.Qxb6615153a
