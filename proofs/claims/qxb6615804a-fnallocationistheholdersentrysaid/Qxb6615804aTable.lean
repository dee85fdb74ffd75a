import Derived.Test.Qxb6615804aBytes
namespace Go.Proofs.Qxb6615804a
open Go.RowKit
set_option linter.unusedVariables false
set_option linter.unusedSimpArgs false

/-- place i passed -/
structure Ok1 (V : Nat → Nat) (B : Nat → Int) (i : Nat) : Prop where
  b0 : 0 ≤ B i
  b1 : B i ≤ 63
  al : V i % 2 ^ (B i).toNat = 0
  up : 0 < i → V (i - 1) < V i

/-- a table that passed -/
structure TG (H : Nat → ByteArray) (V : Nat → Nat) (B E : Nat → Int) (nH nT nV nB K : Nat) : Prop where
  t : nT = nH
  v : nV = nH
  b : nB = nH
  up : ∀ i, i < nH → 0 < i → V (i - 1) < V i
  ne : ∀ i j, i < j → j < nH → H i ≠ H j
  ge : GE E K nH

def TabR (H : Nat → ByteArray) (V : Nat → Nat) (B E : Nat → Int) (nH nT nV nB K : Nat) (e : Ending) : Prop := ∃ r : Bool, e = .returned (.bool r) ∧ (r = true → TG H V B E nH nT nV nB K)

theorem TabR.no (H : Nat → ByteArray) (V : Nat → Nat) (B E : Nat → Int) (nH nT nV nB K : Nat) : TabR H V B E nH nT nV nB K (.returned (.bool false)) := ⟨false, rfl, by simp⟩

theorem bytes_ne {a b : ByteArray} (h : a ≠ b) : (a.toList == b.toList) = false := by
  rw [beq_eq_false_iff_ne]
  intro e
  rw [ByteArray.toList_eq, ByteArray.toList_eq] at e
  exact h (ByteArray.ext (Array.toList_inj.mp e))

theorem pow_le (b : Nat) (h : b ≤ 63) : 0 < 2 ^ b ∧ 2 ^ b ≤ 9223372036854775808 := by
  refine ⟨Nat.pow_pos (by omega), ?_⟩
  have := Nat.pow_le_pow_right (n := 2) (by omega) h
  simpa using this

theorem wrap_pow (b : Nat) (h : b ≤ 63) : IntKind.u64.wrap ((2 : Int) ^ b) = ((2 ^ b : Nat) : Int) := by
  have h1 := pow_le b h
  have e : ((2 : Int) ^ b) = ((2 ^ b : Nat) : Int) := by simp
  rw [e]
  have : IntKind.u64.wrap ((2 ^ b : Nat) : Int) = ((2 ^ b : Nat) : Int) % 18446744073709551616 := by rfl
  rw [this]
  omega

theorem wrap_u (x : Int) (h0 : 0 ≤ x) (h1 : x < 18446744073709551616) : IntKind.u64.wrap x = x := by
  have : IntKind.u64.wrap x = x % 18446744073709551616 := by rfl
  rw [this]
  omega

theorem and_mask (v b : Nat) (hv : v < 18446744073709551616) (hb : b ≤ 63) : bits BinOp.and IntKind.u64 (v : Int) ((2 ^ b - 1 : Nat) : Int) = ((v % 2 ^ b : Nat) : Int) := by
  have h1 := pow_le b hb
  show IntKind.u64.wrap ((BitVec.ofInt 64 (v : Int) &&& BitVec.ofInt 64 ((2 ^ b - 1 : Nat) : Int)).toNat : Nat) = _
  rw [BitVec.toNat_and, BitVec.ofInt_natCast, BitVec.ofInt_natCast, BitVec.toNat_ofNat, BitVec.toNat_ofNat, Nat.mod_eq_of_lt (by omega : v < 2 ^ 64), Nat.mod_eq_of_lt (by omega : 2 ^ b - 1 < 2 ^ 64), Nat.and_two_pow_sub_one_eq_mod]
  have : v % 2 ^ b < 2 ^ b := Nat.mod_lt _ h1.1
  exact wrap_u _ (by omega) (by omega)

theorem no_over (v b : Nat) (hv : v < 18446744073709551616) (hb : b ≤ 63) (h : v % 2 ^ b = 0) : v + (2 ^ b - 1) < 18446744073709551616 := by
  obtain ⟨c, hc⟩ : 2 ^ b ∣ 18446744073709551616 := by
    have : (18446744073709551616 : Nat) = 2 ^ 64 := by rfl
    rw [this]
    exact Nat.pow_dvd_pow 2 (by omega)
  obtain ⟨q, hq⟩ := Nat.dvd_of_mod_eq_zero h
  have hp := (pow_le b hb).1
  generalize 2 ^ b = p at *
  have hlt : q < c := by
    apply Nat.lt_of_mul_lt_mul_left (a := p)
    omega
  have : p * (q + 1) ≤ p * c := Nat.mul_le_mul_left _ hlt
  rw [Nat.mul_add, Nat.mul_one] at this
  omega

theorem ok_step {V : Nat → Nat} {B : Nat → Int} {i : Nat} (h : ∀ j, j < i → Ok1 V B j) (h1 : Ok1 V B i) : ∀ j, j < i + 1 → Ok1 V B j := by
  intro j hj
  by_cases e : j = i
  · subst e; exact h1
  · exact h j (by omega)

set_option maxRecDepth 100000 in
set_option maxHeartbeats 2000000 in
theorem table_any (w : World) (aH aT aV aB aE : Option Addr) (nH nT nV nB K k1 k2 k3 k4 k5 : Nat) (H : Nat → ByteArray) (V : Nat → Nat) (B E : Nat → Int) (mc : Int) (used : Int)
    (hH : CRow w aH nH fun i => .string (H i)) (hV : CRow w aV nV fun i => .int .u64 (V i : Int)) (hB : CRow w aB nB fun i => .int .i64 (B i)) (hE : CRow w aE K fun k => .int .i64 (E k))
    (hK : K ≤ 4096) (hn : nH ≤ 4096) (hm1 : -9223372036854775808 ≤ mc) (hm2 : mc ≤ 9223372036854775807) (hvb : ∀ i, i < nV → V i < 18446744073709551616) :
    Calls Try.prog 8 #[.slice aH nH k1, .slice aT nT k2, .slice aV nV k3, .slice aB nB k4, .slice aE K k5, .int .i64 mc, .int .u64 used] w fun e w' => TabR H V B E nH nT nV nB K e ∧ ∃ m, w' = w.drewN m := by
  have HH := hidden hH
  have HV := hidden hV
  have HB := hidden hB
  have HE := hidden hE
  have HVB := hidden hvb
  clear hH hV hB hE hvb
  by_cases g1 : nT = nH
  case neg =>
    have e1 : ((nT : Int) == (nH : Int)) = false := by simp; omega
    have e2 : ((nT : Int) != (nH : Int)) = true := by simp; omega
    go_enter Try.func8, Try.ntmps8
    go_wp2
    go_ret
    exact ⟨TabR.no _ _ _ _ _ _ _ _ _, 0, rfl⟩
  subst g1
  by_cases g2 : nV = nT
  case neg =>
    have e1 : ((nV : Int) == (nT : Int)) = false := by simp; omega
    have e2 : ((nV : Int) != (nT : Int)) = true := by simp; omega
    go_enter Try.func8, Try.ntmps8
    go_wp2
    go_ret
    exact ⟨TabR.no _ _ _ _ _ _ _ _ _, 0, rfl⟩
  subst g2
  by_cases g3 : nB = nV
  case neg =>
    have e1 : ((nB : Int) == (nV : Int)) = false := by simp; omega
    have e2 : ((nB : Int) != (nV : Int)) = true := by simp; omega
    go_enter Try.func8, Try.ntmps8
    go_wp2
    go_ret
    exact ⟨TabR.no _ _ _ _ _ _ _ _ _, 0, rfl⟩
  subst g3
  go_enter Try.func8, Try.ntmps8
  go_wp2
  go_loopw [16, 17] (fun v16 v17 wr => ∃ (i : Nat) (z : Int) (m : Nat), i ≤ nB ∧ v16 = .int .u64 z ∧ v17 = .int .i64 (i : Int) ∧ wr = w.drewN m ∧ ∀ j, j < i → Ok1 V B j) (fun _ v17 wr => nB - (intOf v17).toNat)
  case atStart => exact ⟨0, 0, 0, Nat.zero_le _, rfl, rfl, rfl, fun j hj => absurd hj (by omega)⟩
  case round =>
    obtain ⟨i, z, m, hi, rfl, rfl, rfl, hall⟩ := hrel
    have HA := hidden hall
    clear hall
    by_cases hlt : i < nB
    · obtain ⟨bV, oV, rfl, _, cV⟩ := CRow.pick HV.out hlt
      obtain ⟨bB, oB, rfl, _, cB⟩ := CRow.pick HB.out hlt
      have hiz : (i : Int) < (nB : Int) := by omega
      have hvb := HVB.out i hlt
      by_cases d1 : B i < 0
      · go_wp2
        go_ret
        exact ⟨TabR.no _ _ _ _ _ _ _ _ _, _, rfl⟩
      by_cases d2 : 63 < B i
      · go_wp2
        go_ret
        exact ⟨TabR.no _ _ _ _ _ _ _ _ _, _, rfl⟩
      obtain ⟨b, hb⟩ : ∃ b : Nat, B i = (b : Int) := ⟨(B i).toNat, by omega⟩
      have hb63 : b ≤ 63 := by omega
      rw [hb] at cB d1 d2
      have HBI := hidden hb
      clear hb
      have f1 := wrap_pow b hb63
      have hpl := pow_le b hb63
      have f3 := and_mask (V i) b hvb hb63
      have f2 : IntKind.u64.wrap (((2 ^ b : Nat) : Int) - 1) = ((2 ^ b - 1 : Nat) : Int) := by rw [wrap_u _ (by omega) (by omega)]; omega
      obtain ⟨p, hp⟩ : ∃ p, p = 2 ^ b := ⟨_, rfl⟩
      rw [← hp] at f1 f2 f3 hpl
      obtain ⟨p1, hp1⟩ : ∃ p1, p1 = p - 1 := ⟨_, rfl⟩
      rw [← hp1] at f2 f3
      have HP := hidden hp
      have HP1 := hidden hp1
      clear hp hp1
      by_cases d3 : V i % p = 0
      case neg =>
        have d3b : (((V i % p : Nat) : Int) != 0) = true := by simp; omega
        have d3c : (((V i % p : Nat) : Int) == 0) = false := by simp; omega
        generalize V i % p = rem at *
        go_wp2
        go_ret
        exact ⟨TabR.no _ _ _ _ _ _ _ _ _, _, rfl⟩
      have D3 := hidden d3
      rw [d3] at f3
      clear d3
      by_cases d4 : 0 < i
      case neg =>
        have d4z : decide ((0 : Int) < (i : Int)) = false := by simp; omega
        go_wp2
        all_goals first
          | (go_ret; exact ⟨TabR.no _ _ _ _ _ _ _ _ _, _, rfl⟩)
          | (go_roundw; (case rel => exact ⟨i + 1, _, _, by omega, rfl, by go_num, rfl, ok_step HA.out ⟨by rw [HBI.out]; omega, by rw [HBI.out]; omega, by rw [HBI.out]; simpa [HP.out] using D3.out, by omega⟩⟩); (case measure => simp [intOf]; omega))
      case pos =>
        obtain ⟨j, rfl⟩ : ∃ j, i = j + 1 := ⟨i - 1, by omega⟩
        obtain ⟨_, _, ea, _, cV'⟩ := CRow.pick HV.out (i := j) (by omega)
        obtain ⟨_, _, eb, _, cB'⟩ := CRow.pick HB.out (i := j) (by omega)
        simp only [Option.some.injEq, Addr.mk.injEq, and_true] at ea eb
        obtain ⟨rfl, rfl⟩ := ea
        obtain ⟨rfl, rfl⟩ := eb
        obtain ⟨o1, o2, o3, _⟩ := HA.out j (by omega)
        obtain ⟨b', hb'⟩ : ∃ b' : Nat, B j = (b' : Int) := ⟨(B j).toNat, by omega⟩
        rw [hb'] at cB' o1 o2 o3
        simp only [Int.toNat_natCast] at o3
        have hb63' : b' ≤ 63 := by omega
        have hvb' := HVB.out j (by omega)
        have g1 := wrap_pow b' hb63'
        have hpl' := pow_le b' hb63'
        have g2 : IntKind.u64.wrap (((2 ^ b' : Nat) : Int) - 1) = ((2 ^ b' - 1 : Nat) : Int) := by rw [wrap_u _ (by omega) (by omega)]; omega
        have g3 := no_over (V j) b' hvb' hb63' o3
        have g4 : IntKind.u64.wrap ((V j : Int) + ((2 ^ b' - 1 : Nat) : Int)) = (V j : Int) + ((2 ^ b' - 1 : Nat) : Int) := by rw [wrap_u _ (by omega) (by omega)]
        clear o3 hb'
        generalize 2 ^ b' = p' at *
        generalize p' - 1 = p1' at *
        have wj : IntKind.i64.wrap (j : Int) = (j : Int) := by rw [IntKind.wrap_i64]; omega
        have wj' : IntKind.i64.wrap ((j : Int) + 1 - 1) = (j : Int) := by rw [IntKind.wrap_i64]; omega
        have hjz : (j : Int) < (nB : Int) := by omega
        have hj1 : (0 : Int) < (j : Int) + 1 := by omega
        by_cases d5 : (V (j + 1) : Int) ≤ (V j : Int) + (p1' : Int)
        · go_wp2
          go_quiet (fail)
          go_wp2
          go_ret
          exact ⟨TabR.no _ _ _ _ _ _ _ _ _, _, rfl⟩
        · go_wp2
          go_quiet (fail)
          go_wp2
          all_goals first
            | (go_ret; exact ⟨TabR.no _ _ _ _ _ _ _ _ _, _, rfl⟩)
            | (go_roundw; (case rel => exact ⟨j + 1 + 1, _, _, by omega, rfl, by go_num, rfl, ok_step HA.out ⟨by rw [HBI.out]; omega, by rw [HBI.out]; omega, by rw [HBI.out]; simpa [HP.out] using D3.out, fun _ => by simp; omega⟩⟩); (case measure => simp [intOf]; omega))
    · obtain rfl : i = nB := by omega
      have hnz : decide ((i : Int) < (i : Int)) = false := by simp
      go_wp2
      · go_ret
        exact ⟨TabR.no _ _ _ _ _ _ _ _ _, _, rfl⟩
      go_loopw [20, 21] (fun v20 v21 wr => ∃ (x : Nat) (m : Nat), x ≤ i ∧ v20 = .int .i64 (x : Int) ∧ wr = w.drewN m ∧ ∀ p q, p < q → q < i → p < x → H p ≠ H q) (fun v20 _ wr => i - (intOf v20).toNat)
      case atStart => exact ⟨0, _, Nat.zero_le _, rfl, rfl, fun p q _ _ h => absurd h (by omega)⟩
      case round =>
        obtain ⟨x, m2, hx, rfl, rfl, hne⟩ := hrel
        have HN := hidden hne
        clear hne
        by_cases hlx : x < i
        · have hxz : (x : Int) < (i : Int) := by omega
          have wx : IntKind.i64.wrap ((x : Int) + 1) = (x : Int) + 1 := by rw [IntKind.wrap_i64]; omega
          obtain ⟨bH, oH, rfl, _, cX⟩ := CRow.pick HH.out hlx
          go_wp2
          go_loopw [21] (fun v21 wr => ∃ (y : Nat) (m : Nat), x < y ∧ y ≤ i ∧ v21 = .int .i64 (y : Int) ∧ wr = w.drewN m ∧ ∀ q, x < q → q < y → H x ≠ H q) (fun v21 wr => i - (intOf v21).toNat)
          case atStart => exact ⟨x + 1, _, by omega, by omega, by go_num, rfl, fun q h1 h2 => absurd h1 (by omega)⟩
          case round =>
            obtain ⟨y, m3, hxy, hy, rfl, rfl, hnq⟩ := hrel
            have HNQ := hidden hnq
            clear hnq
            by_cases hly : y < i
            · have hyz : (y : Int) < (i : Int) := by omega
              obtain ⟨_, _, ea, _, cY⟩ := CRow.pick HH.out hly
              simp only [Option.some.injEq, Addr.mk.injEq, and_true] at ea
              obtain ⟨rfl, rfl⟩ := ea
              by_cases hs : H x = H y
              · have hsb : ((H x).toList == (H y).toList) = true := by simp [hs]
                rw [hs] at cX
                go_wp2
                go_quiet (fail)
                go_wp2
                go_ret
                exact ⟨TabR.no _ _ _ _ _ _ _ _ _, _, World.drewN_drewN _ _ _⟩
              · have HSN := hidden hs
                clear hs
                generalize hs1 : H x = sx at cX
                generalize hs2 : H y = sy at cY
                have hsb : (sx.toList == sy.toList) = false := bytes_ne (by rw [← hs1, ← hs2]; exact HSN.out)
                have E1 := hidden hs1
                have E2 := hidden hs2
                clear hs1 hs2
                go_wp2
                go_quiet (fail)
                go_wp2
                go_roundw
                case rel =>
                  refine ⟨y + 1, _, by omega, by omega, by go_num, rfl, fun q h1 h2 => ?_⟩
                  have hxx : H x ≠ H q := by
                    by_cases e : q = y
                    · subst e; exact HSN.out
                    · exact HNQ.out q h1 (by omega)
                  first | exact hxx | (rw [← E1.out]; exact hxx)
                case measure => simp [intOf]; omega
            · have hyz : decide ((y : Int) < (i : Int)) = false := by simp; omega
              go_wp2
              go_roundw
              case rel =>
                refine ⟨x + 1, _, by omega, by go_num, rfl, fun p q h1 h2 h3 => ?_⟩
                by_cases e : p = x
                · subst e; exact HNQ.out q h1 (by omega)
                · exact HN.out p q h1 h2 (by omega)
              case measure => simp [intOf]; omega
        · have hxz : decide ((x : Int) < (i : Int)) = false := by simp; omega
          have HC := ends_any (w.drewN m2) aE K i k5 E mc (HE.out.below (below_drewN (Below.refl _ _)) (Nat.le_refl _)) hK hn hm1 hm2
          go_wp2_with fail
          refine HC.mono ?_
          rintro e w' ⟨⟨r, rfl, hge⟩, rfl⟩
          have HGE := hidden hge
          clear hge HC
          go_wp2
          go_ret
          refine ⟨⟨r, rfl, fun hr => ⟨rfl, rfl, rfl, fun j hj => (HA.out j hj).up, fun p q h1 h2 => HN.out p q h1 h2 (by omega), HGE.out hr⟩⟩, _, rfl⟩

end Go.Proofs.Qxb6615804a
