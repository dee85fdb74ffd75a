import Derived.Test.Qxb6615153aSlot
namespace Go.Proofs.Qxb6615153a
open Go.RowKit
set_option linter.unusedVariables false
set_option linter.unusedSimpArgs false

theorem zero93 : Try.zeroCells93 = Array.replicate 128 (.bool false) := by kernel_rfl

/-- has one of the first j marks the slot s? -/
def seenB (m : List Nat) (j s : Nat) : Bool := (List.range j).any fun i => sl m i == s
theorem seenB_succ (m : List Nat) (j s : Nat) : seenB m (j + 1) s = (seenB m j s || sl m j == s) := by
  unfold seenB; rw [List.range_succ, List.any_append]; simp
theorem seenB_iff (m : List Nat) (j s : Nat) : seenB m j s = true ↔ ∃ i, i < j ∧ sl m i = s := by
  unfold seenB; simp

/-- the first j marks are fit -/
def PreFit (m : List Nat) (j : Nat) : Prop := (∀ i, i < j → sl m i < m.length) ∧ ∀ i i', i < j → i' < j → sl m i = sl m i' → i = i'

theorem prefit_step {m : List Nat} {j : Nat} (h : PreFit m j) (h1 : sl m j < m.length) (h2 : seenB m j (sl m j) = false) : PreFit m (j + 1) := by
  have h3 : ∀ i, i < j → sl m i ≠ sl m j := fun i hi e => by
    have := (seenB_iff m j (sl m j)).2 ⟨i, hi, e⟩
    rw [h2] at this; cases this
  refine ⟨fun i hi => ?_, fun i i' hi hi' e => ?_⟩
  · by_cases e : i = j
    · subst e; exact h1
    · exact h.1 i (by omega)
  · by_cases e1 : i = j
    · by_cases e2 : i' = j
      · omega
      · subst e1; exact absurd e.symm (h3 i' (by omega))
    · by_cases e2 : i' = j
      · subst e2; exact absurd e (h3 i (by omega))
      · exact h.2 i i' (by omega) (by omega) e

theorem seen_start (w : World) (m : List Nat) : (w.alloc (.cells Try.zeroCells93 93)).rowIs w.heap.size 93 128 (fun s => .bool (seenB m 0 s)) := by
  rw [zero93]
  have h := World.rowIs_alloc w (Array.replicate 128 (Value.bool false)) 93 (fun s => .bool (seenB m 0 s)) (fun i hi => by simp at hi; simp [seenB, hi])
  simpa using h

theorem seen_step {w : World} {g : Nat} {m : List Nat} {j s : Nat} (h : w.rowIs g 93 128 (fun s => .bool (seenB m j s))) (hs : sl m j = s) : (w.setCell ⟨g, s, none⟩ (.bool true)).rowIs g 93 128 (fun s => .bool (seenB m (j + 1) s)) :=
  (h.set s (.bool true)).congr fun i _ => by
    simp only [seenB_succ, hs]
    by_cases e : i = s
    · subst e; simp
    · simp [e, Ne.symm e]

set_option maxRecDepth 100000 in
set_option maxHeartbeats 1000000 in
theorem fit25 (a : Option Addr) (n c : Nat) (ls : List (List Nat)) (w : World) (hs : LRow w a n ls) (hn : n ≤ 4096) (hb : ∀ (i : Nat) (m : List Nat), ls[i]? = some m → m.length ≤ 262144) :
    Calls Try.prog 25 #[.slice a n c] w fun e w' => (e = .returned (.bool false) ∨ (e = .returned (.bool true) ∧ ∀ m ∈ ls, Fit m)) ∧ Below w.heap.size w w' := by
  have HS : Hid (LRow w a n ls) := hs
  have HB : Hid _ := hb
  clear hs hb
  go_enter Try.func25, Try.ntmps25
  go_wp2
  go_loopw [3] (fun i wr => ∃ k : Nat, k ≤ n ∧ i = .int .i64 k ∧ (∀ (j : Nat) (m : List Nat), j < k → ls[j]? = some m → Fit m) ∧ Below w.heap.size w wr) (fun i _ => n - (intOf i).toNat)
  case atStart => exact ⟨0, Nat.zero_le _, rfl, fun j m h => absurd h (by omega), Below.refl _ _⟩
  case round =>
    obtain ⟨k, hk, rfl, hall, hbel⟩ := hrel
    have HA : Hid _ := hall
    have HBl : Hid _ := hbel
    clear hall hbel
    by_cases hlt : k < n
    · obtain ⟨b, off, aL, cL, m, rfl, hbb, hc, hm, hu, _⟩ := LRow.pick (LRow.below HS.out HBl.out (Nat.le_refl _)) hlt
      have hml := HB.out k m hm
      have HM : Hid _ := hm
      have HU : Hid (URow wr aL m) := hu
      clear hm hu
      by_cases d0 : m.length = 0
      · have e0 : ((m.length : Int) == 0) = true := by simp [d0]
        go_wp2
        go_ret
        exact ⟨.inl rfl, HBl.out⟩
      have e0 : ((m.length : Int) == 0) = false := by simp only [beq_eq_false_iff_ne]; omega
      by_cases d1 : m.length ≤ 128
      · go_wp2
        obtain ⟨wo, hwo⟩ : ∃ wo, wo = wr := ⟨_, rfl⟩
        subst hwo
        obtain ⟨g, hg⟩ : ∃ g, g = wo.heap.size := ⟨_, rfl⟩
        have HR0 : Hid _ := seen_start wo m
        have HB0 : Hid (Below wo.heap.size wo (wo.alloc (.cells Try.zeroCells93 93))) := (Below.refl _ _).alloc (Nat.le_refl _) _
        rw [← hg] at HR0 ⊢
        have HG : Hid _ := hg
        clear hg
        go_loopw [6] (fun i wq => ∃ j : Nat, j ≤ m.length ∧ i = .int .i64 j ∧ PreFit m j ∧ wq.rowIs g 93 128 (fun s => .bool (seenB m j s)) ∧ Below wo.heap.size wo wq) (fun i _ => m.length - (intOf i).toNat)
        case atStart => exact ⟨0, Nat.zero_le _, rfl, ⟨fun i h => absurd h (by omega), fun i i' h => absurd h (by omega)⟩, HR0.out, HB0.out⟩
        case round =>
          clear HR0 HB0
          obtain ⟨j, hj, rfl, hpf, hrow, hbel⟩ := hrel
          have HP : Hid _ := hpf
          have HR : Hid (wr.rowIs g 93 128 (fun s => .bool (seenB m j s))) := hrow
          have HB2 : Hid _ := hbel
          clear hpf hrow hbel
          by_cases hjl : j < m.length
          · obtain ⟨b', off', z, rfl, hb', hc', hz, hzb⟩ := URow.pick (URow.below HU.out HB2.out (Nat.le_refl _)) hjl
            have hsz := sl_at hz
            have HZ : Hid _ := hsz
            clear hz hsz
            by_cases d2 : z / 16777216 < m.length
            · have hcell := HR.out.cell (show z / 16777216 < 128 by omega)
              have hfroz := HR.out.frozen (z / 16777216)
              by_cases d3 : seenB m j (z / 16777216) = true
              · rw [d3] at hcell
                clear d3
                go_wp2
                go_ret
                exact ⟨.inl rfl, HBl.out.trans (HB2.out.mono HBl.out.size)⟩
              · have d3 : seenB m j (z / 16777216) = false := by simpa using d3
                have HN : Hid _ := prefit_step HP.out (by rw [HZ.out]; exact d2) (by rw [HZ.out]; exact d3)
                have HS2 : Hid _ := seen_step HR.out HZ.out
                have HB3 : Hid (Below wo.heap.size wo (wr.setCell ⟨g, z / 16777216, none⟩ (.bool true))) := HB2.out.setCell (by rw [HG.out]; exact Nat.le_refl _) _
                rw [d3] at hcell
                clear d3
                go_wp2
                go_roundw
                case rel => exact ⟨j + 1, by omega, by go_num, HN.out, HS2.out, HB3.out⟩
                case measure => simp [intOf]; omega
            · go_wp2
              go_ret
              exact ⟨.inl rfl, HBl.out.trans (HB2.out.mono HBl.out.size)⟩
          · obtain rfl : j = m.length := by omega
            go_wp2
            go_roundw
            case rel => exact ⟨k + 1, by omega, by go_num, fun i m' hi hm' => by
              by_cases e : i = k
              · subst e
                rw [HM.out] at hm'
                obtain rfl := Option.some.inj hm'
                exact ⟨by omega, d1, HP.out.1, HP.out.2⟩
              · exact HA.out i m' (by omega) hm', HBl.out.trans (HB2.out.mono HBl.out.size)⟩
            case measure => simp [intOf]; omega
      · go_wp2
        go_ret
        exact ⟨.inl rfl, HBl.out⟩
    · go_wp2
      go_ret
      exact ⟨.inr ⟨rfl, fun m hm => by
        obtain ⟨i, hi, rfl⟩ := List.mem_iff_getElem.1 hm
        exact HA.out i _ (by have := HS.out.1; omega) (by simp [hi])⟩, HBl.out⟩

end Go.Proofs.Qxb6615153a
