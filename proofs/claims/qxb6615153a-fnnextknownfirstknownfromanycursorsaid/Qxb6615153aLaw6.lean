import Derived.Test.Qxb6615153aAns
import Derived.Laws.Pointers
namespace Go.Proofs.Qxb6615153a
open Go.RowKit
set_option linter.unusedVariables false
set_option linter.unusedSimpArgs false

theorem neq48_any (o : Option Addr) (W : World) : (binOp .neq 48 (.pointer o) (.pointer o)).run Try.prog W = .ok (.bool false) W := by
  cases o with
  | none =>
    have h : ∀ d : Nat, (Op.equalIn (d + 1) 48 (.pointer none) (.pointer none)).run Try.prog W = .ok true W := fun d => by
      simp [Op.equalIn, run_underlying Try.underlying48]
    simp only [binOp]
    simp [Op.equal, Op.maxDepth, h 9999]
  | some a => exact neq48 a W

theorem Ans.le {ls : List (List Nat)} {r n L i p q : Nat} {o : Option Addr} {x : Int} {idx idx' : Nat → Nat → Int} (h : Ans ls r n L i p q o x idx idx') (hl : ls.length = n) : p ≤ n ∧ (p < n → ∃ m, ls[p]? = some m ∧ q < m.length) := by
  rcases h.src with ⟨m, hm, hq, _⟩ | ⟨rfl, rfl, _⟩
  · have := (List.getElem?_eq_some_iff.1 hm).1
    exact ⟨by omega, fun _ => ⟨m, hm, hq⟩⟩
  · exact ⟨Nat.le_refl _, fun h => absurd h (by omega)⟩

theorem LayK.weaken {w : World} {ls : List (List Nat)} {r B B' gN gI k : Nat} {idx : Nat → Nat → Int} {nb : Nat → Nat} {it : Nat → Nat → Nat} (h : LayK w ls r B gN gI k idx nb it) (hb : B' ≤ B) : LayK w ls r B' gN gI k idx nb it := by
  intro j m hm
  obtain ⟨h1, aM, cM, aI, cI, ib, h2⟩ := h j m hm
  exact ⟨h1, aM, cM, aI, cI, ib, ⟨Nat.le_trans hb h2.nbB, h2.marks, h2.mark, h2.items, h2.item, h2.next, h2.nextF, h2.its, h2.itsAt, fun s hs => Nat.le_trans hb (h2.itB s hs), h2.itI⟩⟩

theorem Vis.congr {w : World} {ls : List (List Nat)} {gV : Nat} {vis vis' : Nat → Nat → Bool} (h : Vis w ls gV vis) (e : ∀ L i, L < ls.length → vis L i = vis' L i) : Vis w ls gV vis' :=
  ⟨h.1, fun j hj => (h.2 j hj).congr (fun i _ => by rw [e j i hj])⟩

theorem vis_aux2 {L i p q p' q' : Nat} (e : ¬ (L = p' ∧ i = q')) : (if L = p ∧ i = q then true else false) = (if L = p' ∧ i = q' then true else if L = p ∧ i = q then true else false) := (if_neg e).symm
theorem vis_aux {L i p q p' q' : Nat} (e : ¬ (L = p ∧ i = q)) : (if L = p' ∧ i = q' then true else false) = (if L = p' ∧ i = q' then true else if L = p ∧ i = q then true else false) := by
  rw [if_neg e]

set_option maxRecDepth 100000 in
set_option maxHeartbeats 4000000 in
theorem law6 (a : Option Addr) (n c : Nat) (ls : List (List Nat)) (aL aI bL bI : Int) (w : World) (hs : LRow w a n ls) (hr : ∀ m ∈ ls, ∀ z ∈ m, z < 4294967296) (hm : n ≤ maxLen) :
    Calls Try.prog 6 #[.slice a n c, .int .i64 aL, .int .i64 aI, .int .i64 bL, .int .i64 bI] w fun e w' => e = .returned (.bool true) ∧ Below w.heap.size w w' := by
  have HS : Hid (LRow w a n ls) := hs
  have hl := hs.1
  have HL : Hid _ := hl
  have HR : Hid _ := hr
  have hm' := hm
  unfold maxLen at hm'
  clear hs hr hl
  go_enter Try.func6, Try.ntmps6
  go_wp2_with fail
  refine (bytes23_any a n c ls aL aI bL bI w HS.out hm).mono ?_
  rintro e w ⟨⟨rr, rfl⟩, rfl⟩
  cases rr with
  | false =>
    go_wp2
    go_ret
    exact ⟨rfl, Below.refl _ _⟩
  | true =>
  go_wp2_with fail
  refine (big24_any a n c ls _ HS.out hm).mono ?_
  rintro e w ⟨rfl | ⟨rfl, hn, hslim⟩, rfl⟩
  · go_wp2
    go_ret
    exact ⟨rfl, Below.refl _ _⟩
  have HSL : Hid _ := hslim
  clear hslim hm hm'
  go_wp2_with fail
  refine (fit25 a n c ls _ HS.out hn HSL.out).mono ?_
  rintro e w1 ⟨rfl | ⟨rfl, hfit⟩, bel1⟩
  · have HB1 : Hid _ := bel1
    clear bel1
    go_wp2
    go_ret
    exact ⟨rfl, HB1.out⟩
  have HF : Hid _ := hfit
  have HB1 : Hid _ := bel1
  have HS1 : Hid _ := LRow.below HS.out bel1 (Nat.le_refl _)
  clear hfit bel1
  go_wp2_with fail
  refine (valid26 a n c ls aL aI w1 HS1.out hn).mono ?_
  rintro e w1 ⟨rfl, rfl⟩
  cases hva : validB ls aL aI with
  | false =>
    clear hva
    go_wp2
    go_ret
    exact ⟨rfl, HB1.out⟩
  | true =>
  obtain ⟨LA, iA, haL, hatA, h0A⟩ := at_of_valid hva
  subst haL
  have HAA : Hid _ := hatA
  have H0A : Hid _ := h0A
  clear hva hatA h0A
  go_wp2_with fail
  refine (valid26 a n c ls bL bI _ HS1.out hn).mono ?_
  rintro e w1 ⟨rfl, rfl⟩
  cases hvb : validB ls bL bI with
  | false =>
    clear hvb
    go_wp2
    go_ret
    exact ⟨rfl, HB1.out⟩
  | true =>
  obtain ⟨LB, iB, hbL, hatB, h0B⟩ := at_of_valid hvb
  subst hbL
  have HAB : Hid _ := hatB
  have H0B : Hid _ := h0B
  clear hvb hatB h0B
  go_wp2_with fail
  refine (before27 _ _ _ _ _ _).mono ?_
  rintro e w1 ⟨rfl, rfl⟩
  cases hba : beforeB (LB : Int) bI (LA : Int) aI (n : Int) with
  | true =>
    clear hba
    go_wp2
    go_ret
    exact ⟨rfl, HB1.out⟩
  | false =>
  have HBA : Hid _ := hba
  clear hba
  have hnl : ¬ Lt LB iB LA iA := by
    have h1 := HBA.out
    rw [← HL.out] at h1
    exact nlt_of_before HAA.out H0A.out HAB.out.le (fun h => by
      obtain ⟨m, hm⟩ : ∃ m, ls[LB]? = some m := ⟨_, List.getElem?_eq_getElem h⟩
      exact (HAB.out.pos m hm).2) h1
  have HNL : Hid _ := hnl
  clear hnl HBA
  go_wp2_with fail
  refine (run28 _).mono ?_
  rintro e w2 ⟨rfl, bel2, hsz2⟩
  obtain ⟨r, hr⟩ : ∃ r, r = w1.heap.size := ⟨_, rfl⟩
  rw [← hr]
  clear hr
  have HB2 : Hid (Below w.heap.size w w2) := HB1.out.trans (bel2.mono HB1.out.size)
  have HS2 : Hid _ := LRow.below HS1.out bel2 (Nat.le_refl _)
  clear bel2 hsz2
  go_wp2_with fail
  refine (build29 a n c ls r w2 HS2.out hn HF.out).mono ?_
  rintro e w3 ⟨nb, it, rfl, hlay3, bel3⟩
  have hlay3 := hlay3.weaken (B' := w2.heap.size) (by omega)
  obtain ⟨gN, hgN⟩ : ∃ g, g = w2.heap.size := ⟨_, rfl⟩
  have hsz3 := bel3.size
  have hlo := HB2.out.size
  have HB3 : Hid (Below w.heap.size w w3) := HB2.out.trans (bel3.mono HB2.out.size)
  have HS3 : Hid _ := LRow.below HS2.out bel3 (Nat.le_refl _)
  rw [← hgN] at hlay3 hsz3 hlo ⊢
  rw [← HL.out] at hlay3
  have HLY3 : Hid _ := hlay3
  have hn' : ls.length ≤ 4096 := by rw [HL.out]; exact hn
  clear hlay3 bel3 hgN
  have hLA : LA ≤ n := by rw [← HL.out]; exact HAA.out.le
  have hLB : LB ≤ n := by rw [← HL.out]; exact HAB.out.le
  go_wp2_with fail
  refine (leafAt31 HLY3.out n LA HL.out hn hLA).mono ?_
  rintro e w3 ⟨rfl, rfl⟩
  go_wp2_with fail
  refine (zz30' HLY3.out HF.out HR.out hsz3 hn' LA iA aI HAA.out).mono ?_
  rintro e w4 ⟨p, q, o, x, idx4, rfl, hans, hlay4, bel4⟩
  rw [HL.out] at hans
  have HAN : Hid _ := hans
  have HLY4 : Hid _ := hlay4
  have hsz4 := bel4.size
  have HB4 : Hid (Below w.heap.size w w4) := HB3.out.trans (bel4.mono hlo)
  have HBL4 : Hid _ := bel4
  clear hans hlay4 bel4
  go_wp2_with fail
  refine (leafAt31 HLY4.out n LB HL.out hn hLB).mono ?_
  rintro e w4 ⟨rfl, rfl⟩
  go_wp2_with fail
  refine (zz30' HLY4.out HF.out HR.out (by omega) hn' LB iB bI HAB.out).mono ?_
  rintro e w5 ⟨p', q', o', x', idx5, rfl, hans', hlay5, bel5⟩
  rw [HL.out] at hans'
  have HAN' : Hid _ := hans'
  have HLY5 : Hid _ := hlay5
  have hsz5 := bel5.size
  have HB5 : Hid (Below w.heap.size w w5) := HB4.out.trans (bel5.mono hlo)
  have HS5 : Hid _ := LRow.below HS.out HB5.out (Nat.le_refl _)
  clear hans' hlay5 bel5
  go_wp2_with fail
  refine (first32_any a n c ls LA iA aI r p q o x _ idx4 w5 HS5.out hn HF.out HAA.out HAN.out).mono ?_
  rintro e w5 ⟨rfl, rfl⟩
  go_wp2_with fail
  refine (first32_any a n c ls LB iB bI r p' q' o' x' idx4 idx5 w5 HS5.out hn HF.out HAB.out HAN'.out).mono ?_
  rintro e w5 ⟨rfl, rfl⟩
  go_wp2_with fail
  refine (before27 _ _ _ _ _ _).mono ?_
  rintro e w5 ⟨rfl, rfl⟩
  obtain ⟨hpn, hpm⟩ := HAN.out.le HL.out
  obtain ⟨hpn', hpm'⟩ := HAN'.out.le HL.out
  have HPM : Hid _ := hpm
  have HPM' : Hid _ := hpm'
  clear hpm hpm'
  have HID : Hid (∀ L m i, ls[L]? = some m → i < m.length → idx5 L (sl m i) = if (if L = p' ∧ i = q' then true else if L = p ∧ i = q then true else false) then (i : Int) else (sl m i : Int)) := by
    intro L m i hm hi
    rw [HAN'.out.hint L m i hm hi, HAN.out.hint L m i hm hi]
    by_cases e1 : L = p' ∧ i = q'
    · simp [e1]
    · by_cases e2 : L = p ∧ i = q
      · simp [e1, e2]
      · simp [e1, e2]
  have HLT : Hid (beforeB (p : Int) (q : Int) (LB : Int) bI (n : Int) = false → o = o' ∧ x = x') := by
    intro h
    rw [← HL.out] at h
    exact ans_same HL.out HAN.out HAN'.out HNL.out (nlt_of_before HAB.out H0B.out (by rw [HL.out]; exact hpn) (fun _ => rfl) h)
  cases hpb : beforeB (p : Int) (q : Int) (LB : Int) bI (n : Int) with
  | true =>
    clear hpb
    go_wp2_with fail
    refine (visited33 a n c ls _ HS5.out hn HF.out).mono ?_
    rintro e w6 ⟨rfl, hvis, bel6⟩
    obtain ⟨gV, hgV⟩ : ∃ g, g = w5.heap.size := ⟨_, rfl⟩
    rw [← hgV] at hvis ⊢
    have hsz6 := bel6.size
    have HGV : Hid _ := hgV
    have HB6 : Hid _ := bel6
    have HV6 : Hid _ := hvis
    clear hgV bel6 hvis
    by_cases hp : p < n
    · obtain ⟨mp, hmp, hqp⟩ := HPM.out hp
      obtain ⟨v1, v2, v3⟩ := Vis.at_pos HV6.out hmp hqp
      have hi1 : (q : Int) < (mp.length : Int) := by omega
      have HV7 : Hid _ := Vis.set HV6.out p q
      have HB7 : Hid _ := HB6.out.setCell (p := ⟨gV + 1 + p, q, none⟩) (by rw [← HGV.out]; show gV ≤ gV + 1 + p; omega) (.bool true)
      by_cases hp' : p' < n
      · obtain ⟨mp', hmp', hqp'⟩ := HPM'.out hp'
        obtain ⟨u1, u2, u3⟩ := Vis.at_pos HV7.out hmp' hqp'
        have u4 := (Vis.at_pos HV6.out hmp' hqp').1
        have u5 := (Vis.at_pos HV6.out hmp' hqp').2.2
        obtain ⟨u0, hu0⟩ : ∃ u0, (w6.setCell ⟨gV + 1 + p, q, none⟩ (.bool true)).cell? ⟨gV + 1 + p', q', none⟩ = some u0 := ⟨_, u2⟩
        have hi2 : (q' : Int) < (mp'.length : Int) := by omega
        have HV8 : Hid _ := Vis.set HV7.out p' q'
        have HB8 : Hid _ := HB7.out.setCell (p := ⟨gV + 1 + p', q', none⟩) (by rw [← HGV.out]; show gV ≤ gV + 1 + p'; omega) (.bool true)
        clear hmp hmp' u2
        go_wp2_with fail
        refine (kept34 (LayK.below HLY5.out HB8.out (Nat.le_refl _)) HF.out HV8.out a n c (LRow.below HS5.out HB8.out (Nat.le_refl _)) hn HID.out).mono ?_
        rintro e w9 ⟨rfl, rfl⟩
        clear v1 v2 v3 u1 u3 u4 u5 hu0
        go_wp2
        go_ret
        exact ⟨rfl, HB5.out.trans (HB8.out.mono HB5.out.size)⟩
      · have HV8 : Hid (Vis (w6.setCell ⟨gV + 1 + p, q, none⟩ (.bool true)) ls gV (fun L i => if L = p' ∧ i = q' then true else if L = p ∧ i = q then true else false)) := Vis.congr HV7.out (fun L i hL => vis_aux2 (by have := HL.out; omega))
        clear hmp
        go_wp2_with fail
        refine (kept34 (LayK.below HLY5.out HB7.out (Nat.le_refl _)) HF.out HV8.out a n c (LRow.below HS5.out HB7.out (Nat.le_refl _)) hn HID.out).mono ?_
        rintro e w9 ⟨rfl, rfl⟩
        clear v1 v2 v3
        go_wp2
        go_ret
        exact ⟨rfl, HB5.out.trans (HB7.out.mono HB5.out.size)⟩
    · by_cases hp' : p' < n
      · obtain ⟨mp', hmp', hqp'⟩ := HPM'.out hp'
        obtain ⟨u1, u2, u3⟩ := Vis.at_pos HV6.out hmp' hqp'
        have hi2 : (q' : Int) < (mp'.length : Int) := by omega
        have HV8 : Hid (Vis (w6.setCell ⟨gV + 1 + p', q', none⟩ (.bool true)) ls gV (fun L i => if L = p' ∧ i = q' then true else if L = p ∧ i = q then true else false)) := Vis.congr (Vis.set HV6.out p' q') (fun L i hL => vis_aux (by have := HL.out; omega))
        have HB8 : Hid _ := HB6.out.setCell (p := ⟨gV + 1 + p', q', none⟩) (by rw [← HGV.out]; show gV ≤ gV + 1 + p'; omega) (.bool true)
        clear hmp'
        go_wp2_with fail
        refine (kept34 (LayK.below HLY5.out HB8.out (Nat.le_refl _)) HF.out HV8.out a n c (LRow.below HS5.out HB8.out (Nat.le_refl _)) hn HID.out).mono ?_
        rintro e w9 ⟨rfl, rfl⟩
        clear u1 u2 u3
        go_wp2
        go_ret
        exact ⟨rfl, HB5.out.trans (HB8.out.mono HB5.out.size)⟩
      · have HV8 : Hid (Vis w6 ls gV (fun L i => if L = p' ∧ i = q' then true else if L = p ∧ i = q then true else false)) := Vis.congr HV6.out (fun L i hL => by have := HL.out; rw [if_neg (by omega), if_neg (by omega)])
        go_wp2_with fail
        refine (kept34 (LayK.below HLY5.out HB6.out (Nat.le_refl _)) HF.out HV8.out a n c (LRow.below HS5.out HB6.out (Nat.le_refl _)) hn HID.out).mono ?_
        rintro e w9 ⟨rfl, rfl⟩
        go_wp2
        go_ret
        exact ⟨rfl, HB5.out.trans (HB6.out.mono HB5.out.size)⟩
  | false =>
    obtain ⟨rfl, rfl⟩ := HLT.out hpb
    have hpq := neq48_any o
    clear hpb
    go_wp2_with fail
    refine (visited33 a n c ls _ HS5.out hn HF.out).mono ?_
    rintro e w6 ⟨rfl, hvis, bel6⟩
    obtain ⟨gV, hgV⟩ : ∃ g, g = w5.heap.size := ⟨_, rfl⟩
    rw [← hgV] at hvis ⊢
    have hsz6 := bel6.size
    have HGV : Hid _ := hgV
    have HB6 : Hid _ := bel6
    have HV6 : Hid _ := hvis
    clear hgV bel6 hvis
    by_cases hp : p < n
    · obtain ⟨mp, hmp, hqp⟩ := HPM.out hp
      obtain ⟨v1, v2, v3⟩ := Vis.at_pos HV6.out hmp hqp
      have hi1 : (q : Int) < (mp.length : Int) := by omega
      have HV7 : Hid _ := Vis.set HV6.out p q
      have HB7 : Hid _ := HB6.out.setCell (p := ⟨gV + 1 + p, q, none⟩) (by rw [← HGV.out]; show gV ≤ gV + 1 + p; omega) (.bool true)
      by_cases hp' : p' < n
      · obtain ⟨mp', hmp', hqp'⟩ := HPM'.out hp'
        obtain ⟨u1, u2, u3⟩ := Vis.at_pos HV7.out hmp' hqp'
        have u4 := (Vis.at_pos HV6.out hmp' hqp').1
        have u5 := (Vis.at_pos HV6.out hmp' hqp').2.2
        obtain ⟨u0, hu0⟩ : ∃ u0, (w6.setCell ⟨gV + 1 + p, q, none⟩ (.bool true)).cell? ⟨gV + 1 + p', q', none⟩ = some u0 := ⟨_, u2⟩
        have hi2 : (q' : Int) < (mp'.length : Int) := by omega
        have HV8 : Hid _ := Vis.set HV7.out p' q'
        have HB8 : Hid _ := HB7.out.setCell (p := ⟨gV + 1 + p', q', none⟩) (by rw [← HGV.out]; show gV ≤ gV + 1 + p'; omega) (.bool true)
        clear hmp hmp' u2
        go_wp2_with fail
        refine (kept34 (LayK.below HLY5.out HB8.out (Nat.le_refl _)) HF.out HV8.out a n c (LRow.below HS5.out HB8.out (Nat.le_refl _)) hn HID.out).mono ?_
        rintro e w9 ⟨rfl, rfl⟩
        clear v1 v2 v3 u1 u3 u4 u5 hu0
        go_wp2
        go_ret
        exact ⟨rfl, HB5.out.trans (HB8.out.mono HB5.out.size)⟩
      · have HV8 : Hid (Vis (w6.setCell ⟨gV + 1 + p, q, none⟩ (.bool true)) ls gV (fun L i => if L = p' ∧ i = q' then true else if L = p ∧ i = q then true else false)) := Vis.congr HV7.out (fun L i hL => vis_aux2 (by have := HL.out; omega))
        clear hmp
        go_wp2_with fail
        refine (kept34 (LayK.below HLY5.out HB7.out (Nat.le_refl _)) HF.out HV8.out a n c (LRow.below HS5.out HB7.out (Nat.le_refl _)) hn HID.out).mono ?_
        rintro e w9 ⟨rfl, rfl⟩
        clear v1 v2 v3
        go_wp2
        go_ret
        exact ⟨rfl, HB5.out.trans (HB7.out.mono HB5.out.size)⟩
    · by_cases hp' : p' < n
      · obtain ⟨mp', hmp', hqp'⟩ := HPM'.out hp'
        obtain ⟨u1, u2, u3⟩ := Vis.at_pos HV6.out hmp' hqp'
        have hi2 : (q' : Int) < (mp'.length : Int) := by omega
        have HV8 : Hid (Vis (w6.setCell ⟨gV + 1 + p', q', none⟩ (.bool true)) ls gV (fun L i => if L = p' ∧ i = q' then true else if L = p ∧ i = q then true else false)) := Vis.congr (Vis.set HV6.out p' q') (fun L i hL => vis_aux (by have := HL.out; omega))
        have HB8 : Hid _ := HB6.out.setCell (p := ⟨gV + 1 + p', q', none⟩) (by rw [← HGV.out]; show gV ≤ gV + 1 + p'; omega) (.bool true)
        clear hmp'
        go_wp2_with fail
        refine (kept34 (LayK.below HLY5.out HB8.out (Nat.le_refl _)) HF.out HV8.out a n c (LRow.below HS5.out HB8.out (Nat.le_refl _)) hn HID.out).mono ?_
        rintro e w9 ⟨rfl, rfl⟩
        clear u1 u2 u3
        go_wp2
        go_ret
        exact ⟨rfl, HB5.out.trans (HB8.out.mono HB5.out.size)⟩
      · have HV8 : Hid (Vis w6 ls gV (fun L i => if L = p' ∧ i = q' then true else if L = p ∧ i = q then true else false)) := Vis.congr HV6.out (fun L i hL => by have := HL.out; rw [if_neg (by omega), if_neg (by omega)])
        go_wp2_with fail
        refine (kept34 (LayK.below HLY5.out HB6.out (Nat.le_refl _)) HF.out HV8.out a n c (LRow.below HS5.out HB6.out (Nat.le_refl _)) hn HID.out).mono ?_
        rintro e w9 ⟨rfl, rfl⟩
        go_wp2
        go_ret
        exact ⟨rfl, HB5.out.trans (HB6.out.mono HB5.out.size)⟩

end Go.Proofs.Qxb6615153a
