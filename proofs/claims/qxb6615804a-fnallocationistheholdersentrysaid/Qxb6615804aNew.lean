import Derived.Test.Qxb6615804aPush
namespace Go.Proofs.Qxb6615804a
open Go.RowKit
set_option linter.unusedVariables false
set_option linter.unusedSimpArgs false

def noEnt : Ent := ⟨ByteArray.empty, ByteArray.empty, 0, 0⟩

theorem Try.info60 : (Try.prog.info? 60).map (fun i => (i.zero, i.size, i.bytes)) = some (some (.agg (slCell noEnt).toArray), 8, 80) := by kernel_rfl
theorem Try.info62 : (Try.prog.info? 62).map (fun i => (i.zero, i.size, i.bytes)) = some (some (.agg #[.slice none 0 0, .int .i64 0, .int .i8 0, .bool false]), 4, 40) := by kernel_rfl

/-- m zero slots -/
def slZero (m : Nat) : Array Value := madeCells (Value.agg (slCell noEnt).toArray).cells (m * 8)

theorem make57 (m : Nat) (hm : m ≤ 4096) (w : World) : (Instr.makeSlice 57 (.int .i64 0) (.int .i64 (m : Int))).run Try.prog w = .ok (.slice (some ⟨w.heap.size, 0, none⟩) 0 m) (w.alloc (.cells (slZero m) 60)) := by
  obtain ⟨i, hi, hz, hs, hb⟩ := info_parts Try.info60
  have := run_make (P := Try.prog) w 57 60 i _ Try.underlying57 hi hz .i64 .i64 0 m (by omega) (by omega) (by rw [hb]; omega) (by omega)
  simp only [Int.toNat_natCast, hs] at this
  exact this

/-- what ZZnewTable hands back -/
def Made (w w' : World) (K n : Nat) (s : Nat → Nat) (X : Nat → Ent) (e : Ending) : Prop :=
  ∃ tb mb a cK cb ib cp, e = .returned (.pointer (some ⟨tb, 0, none⟩)) ∧ Lst w' tb K n s X a cK cb ib cp ∧ w'.cell? ⟨tb, 0, none⟩ = some (.map (some mb)) ∧ w'.ownsMap Try.prog 9 uR mb n (Dk X n) ∧ Below w.heap.size w w'

theorem in_start {w wr : World} {tb mb : Nat} {c2 c3 c4 c5 c6 : Value} {s : Nat → Nat} {X : Nat → Ent} {k : Nat} {chv : Value} {ib cp : Nat → Nat} (h : Bl w wr tb mb c2 c3 c4 c5 c6 s X k chv ib cp) (m : Nat) (hm : m ≤ 4096) :
    (wr.alloc (.cells (slZero m) 60)).ownsRow w.heap.size 60 8 (.slice (some ⟨wr.heap.size, 0, none⟩) 0 m) 0 (slCells X (s k) 0) ∧ ∀ c, c < k → ib c ≠ wr.heap.size := by
  refine ⟨World.ownsRow_made wr (slZero m) m h.below.size (by unfold maxLen; omega) (size_madeCells _ _), fun c hc e => ?_⟩
  obtain ⟨cs, e1, _⟩ := h.its c hc
  have := lt_heap e1
  omega

/-- the outer loop's state -/
structure OutI (w wr : World) (tb mb : Nat) (c2 c3 c4 c5 c6 : Value) (s : Nat → Nat) (X : Nat → Ent) (k : Nat) (chv : Value) (ib cp : Nat → Nat) : Prop where
  bl : Bl w wr tb mb c2 c3 c4 c5 c6 s X k chv ib cp
  mp : wr.ownsMap Try.prog 9 uR mb (s k) (Dk X (s k))

/-- the inner loop's state -/
structure InI (w wr : World) (tb mb : Nat) (c2 c3 c4 c5 c6 : Value) (s : Nat → Nat) (X : Nat → Ent) (k i g m cp0 : Nat) (chv : Value) (ib cp : Nat → Nat) : Prop where
  bl : Bl w wr tb mb c2 c3 c4 c5 c6 s X k chv ib cp
  mp : wr.ownsMap Try.prog 9 uR mb i (Dk X i)
  it : wr.ownsRow w.heap.size 60 8 (.slice (some ⟨g, 0, none⟩) m cp0) m (slCells X (s k) m)
  sep : ∀ c, c < k → ib c ≠ g

theorem out_start (w : World) (tb : Nat) (mc u : Int) (htb : tb = w.heap.size + 1 + 1 + 1 + 1) (s : Nat → Nat) (X : Nat → Ent) (h0 : s 0 = 0) :
    OutI w (((((w.alloc (.map #[] 0)).alloc (.cells #[.int .u64 0, .int .u64 0, .int .u64 u] 49)).alloc (.cells #[.int .u64 0, .int .u64 u] 31)).alloc (.map #[] 0)).alloc (.cells #[.map (some w.heap.size), .slice none 0 0, .int .i64 mc, .int .u64 0, .int .u64 0, .int .u64 u, .map (some (w.heap.size + 1 + 1 + 1))] 56))
      tb w.heap.size (.int .i64 mc) (.int .u64 0) (.int .u64 0) (.int .u64 u) (.map (some (w.heap.size + 1 + 1 + 1))) s X 0 (.slice none 0 0) (fun _ => 0) (fun _ => 0) := by
  refine ⟨⟨?_, by omega, Nat.le_refl _, ?_, World.ownsRow_nil _ _ _ _, fun c hc => absurd hc (by omega)⟩, ?_⟩
  · exact (((((Below.refl _ _).alloc (by simp) _).alloc (by simp) _).alloc (by simp; omega) _).alloc (by simp; omega) _).alloc (by simp; omega) _
  · have e : tb = ((((w.alloc (.map #[] 0)).alloc (.cells #[.int .u64 0, .int .u64 0, .int .u64 u] 49)).alloc (.cells #[.int .u64 0, .int .u64 u] 31)).alloc (.map #[] 0)).heap.size := by simp [htb]
    rw [e]
    exact heap_alloc_new _ _
  · rw [h0]
    exact ((((World.ownsMap_made w Try.prog 9 uR).alloc _).alloc _).alloc _).alloc _

theorem ent_at {W : World} {p : Nat} {x : Ent} {fr : Nat × Nat} (h : W.heap[p]? = some (.cells (entCells x).toArray 35 fr)) : EntAt W p 0 x := by
  refine ⟨?_, ?_, ?_, ?_, ?_, ?_, ?_⟩ <;> (rw [cell_of_row W p _ _ _ _ h]; rfl)

theorem grown_drew {w w' : World} {row : Option Nat} (h : w.grownBy w' row) : w.grownBy w'.drew row := ⟨h.os, h.tape, h.output, h.size, h.block⟩

theorem grown_two {w : World} (o1 o2 : Obj) : w.grownBy (((w.alloc o1).alloc o2).drew) none :=
  grown_drew ((World.grownBy_alloc w o1 none).trans (World.grownBy_alloc _ o2 none))

theorem two_snd {w : World} (o1 o2 : Obj) : (((w.alloc o1).alloc o2).drew).heap[w.heap.size + 1]? = some o2 := by
  have := heap_alloc_new (w.alloc o1) o2
  rw [World.size_alloc] at this
  exact this

theorem two_fst {w : World} (o1 o2 : Obj) : (((w.alloc o1).alloc o2).drew).heap[w.heap.size]? = some o1 := by
  have h1 := heap_alloc_new w o1
  exact ((World.grownBy_alloc (w.alloc o1) o2 none).block _ (lt_heap h1) (by simp)).trans h1

theorem slot_one (x : Ent) : ∀ u ∈ slCell x, u.oneCell' = true := by
  intro u hu
  simp [slCell, entCells] at hu
  rcases hu with rfl | rfl | rfl | rfl | rfl | rfl | rfl <;> rfl

theorem slot_news (x : Ent) (wc : World) : ∀ j u, (slCell x)[j]? = some u → (wc.alloc (.cells #[.string x.h, .string x.t, .int .u64 0, .int .u64 (x.v : Int), .int .i64 x.b, .pointer none, .pointer none, .int .i8 0] 60)).cell? ((⟨wc.heap.size, 0, none⟩ : Addr).add j) = some u :=
  World.news_of_block (heap_alloc_new wc _)

theorem chunk_one (g n c e : Nat) : ∀ u ∈ chCell g n c e, u.oneCell' = true := by
  intro u hu
  simp [chCell] at hu
  rcases hu with rfl | rfl | rfl | rfl <;> rfl

theorem chunk_news (g n c e : Nat) (wc : World) : ∀ j u, (chCell g n c e)[j]? = some u → (wc.alloc (.cells #[.slice (some ⟨g, 0, none⟩) n c, .int .i64 (e : Int), .int .i8 0, .bool false] 62)).cell? ((⟨wc.heap.size, 0, none⟩ : Addr).add j) = some u :=
  World.news_of_block (heap_alloc_new wc _)

section
variable {w wr wc w3 : World} {tb mb : Nat} {c2 c3 c4 c5 c6 : Value} {s : Nat → Nat} {X : Nat → Ent} {k i g m cp0 : Nat} {chv : Value} {ib cp : Nat → Nat} {p : Nat} {cs : Array Value}

/-- behind the append of a slot -/
theorem in_app (h : InI w wr tb mb c2 c3 c4 c5 c6 s X k i g m cp0 chv ib cp) (hgr : wr.grownBy wc none) (hp : wc.heap[p]? = some (.cells (entCells (X i)).toArray 35 (0, 0)))
    (hgr3 : (wc.alloc (.cells cs 60)).grownBy w3 (Value.ownBlock (.slice (some ⟨g, 0, none⟩) m cp0))) :
    Bl w w3 tb mb c2 c3 c4 c5 c6 s X k chv ib cp ∧ w3.ownsMap Try.prog 9 uR mb i (Dk X i) ∧ w3.heap[p]? = some (.cells (entCells (X i)).toArray 35 (0, 0)) := by
  have hg : wr.grownBy w3 (some g) := ((hgr.trans (World.grownBy_alloc wc (.cells cs 60) none)).but (some g)).trans hgr3
  obtain ⟨hgB, gs, hgc⟩ := own_block h.it (g := g) rfl
  refine ⟨h.bl.keep hg (fun b hb => by simp at hb; subst hb; exact hgB) (h.bl.apart hgc).1 (h.bl.apart hgc).2 (fun c hc e => h.sep c hc (by simpa using e.symm)), h.mp.kept hg (fun e => ?_), ?_⟩
  · simp at e
    subst e
    obtain ⟨es, cl, hm, _⟩ := h.mp
    rw [hm] at hgc
    simp at hgc
  · have h1 := ((World.grownBy_alloc wc (.cells cs 60) none).block _ (lt_heap hp) (by simp)).trans hp
    refine (hgr3.block _ (lt_heap h1) (fun e => ?_)).trans h1
    simp [Value.ownBlock] at e
    subst e
    have h2 := (hgr.block _ (lt_heap hgc) (by simp)).trans hgc
    rw [hp] at h2
    simp at h2

/-- behind the store into the map -/
theorem in_next (h : InI w wr tb mb c2 c3 c4 c5 c6 s X k i g m cp0 chv ib cp) (hsk : s k ≤ i) (hm : m = i - s k) (hgr : wr.grownBy wc none) (hbl : Bl w w3 tb mb c2 c3 c4 c5 c6 s X k chv ib cp)
    {g2 cap2 : Nat} (hown : w3.ownsRow w.heap.size 60 8 (.slice (some ⟨g2, 0, none⟩) (m + 1) cap2) (m + 1) (slCells X (s k) m ++ slCell (X i))) (hat : Value.ownBlock (.slice (some ⟨g, 0, none⟩) m cp0) = some g2 ∨ g2 = wc.heap.size + 1)
    {w4 : World} (hown4 : w4.ownsMap Try.prog 9 uR mb (i + 1) ((Dk X i).put (.string (X i).h.data.toList) (.lit (.int .u64 ((X i).v : Int))))) (ht : (w3.drew).mapTurned w4 mb) :
    InI w w4 tb mb c2 c3 c4 c5 c6 s X k (i + 1) g2 (i + 1 - s k) cap2 chv ib cp := by
  have hbl' : Bl w w3.drew tb mb c2 c3 c4 c5 c6 s X k chv ib cp := hbl.more ⟨rfl, rfl, rfl, Nat.le_refl _, fun _ _ _ => rfl⟩
  refine ⟨hbl'.turned ht, hown4, ?_, fun c hc e => ?_⟩
  · have e1 : i + 1 - s k = m + 1 := by omega
    have e2 : s k + m = i := by omega
    rw [e1, slCells_succ, e2]
    refine World.ownsRow.kept (w := w3.drew) hown ht.grown (.inr (fun e => ?_))
    simp [Value.ownBlock] at e
    obtain ⟨es, cl, _, _, hmb, _⟩ := ht
    obtain ⟨_, gs, hgc⟩ := own_block hown (g := g2) rfl
    have hgc' : w3.drew.heap[g2]? = some (.cells gs 60 (0, 0)) := hgc
    rw [e, hmb] at hgc'
    simp at hgc'
  · rcases hat with hat | hat
    · simp [Value.ownBlock] at hat
      exact h.sep c hc (by omega)
    · obtain ⟨cs, e1, _⟩ := h.bl.its c hc
      have := lt_heap e1
      have := hgr.size
      omega
end

set_option maxRecDepth 100000 in
set_option maxHeartbeats 1000000 in
theorem newTable_any (w : World) (aH aT aV aB aE : Option Addr) (n K k1 k2 k3 k4 k5 : Nat) (X : Nat → Ent) (s : Nat → Nat) (mc u : Int)
    (hH : CRow w aH n fun i => .string (X i).h) (hT : CRow w aT n fun i => .string (X i).t) (hV : CRow w aV n fun i => .int .u64 ((X i).v : Int)) (hB : CRow w aB n fun i => .int .i64 (X i).b) (hE : CRow w aE K fun k => .int .i64 (s (k + 1) : Int))
    (hK : K ≤ 4096) (hn : n ≤ 4096) (h0 : s 0 = 0) (hl : s K = n) (hst : ∀ k, k < K → s k < s (k + 1)) (hsz : ∀ i, i < n → (X i).h.size ≤ maxLen) :
    Calls Try.prog 11 #[.slice aH n k1, .slice aT n k2, .slice aV n k3, .slice aB n k4, .slice aE K k5, .int .i64 mc, .int .u64 u] w fun e w' => Made w w' K n s X e := by
  have HH := hidden hH
  have HT := hidden hT
  have HV := hidden hV
  have HB := hidden hB
  have HE := hidden hE
  have HS0 := hidden h0
  have HSL := hidden hl
  have HST := hidden hst
  have HSZ := hidden hsz
  have hle : Hid (∀ k, k ≤ K → s k ≤ n) := hidden (fun k hk => by have := s_mono hst hk (Nat.le_refl K); omega)
  clear hH hT hV hB hE h0 hl hst hsz
  have hmm := fun t w => run_makeMap (P := Try.prog) t w
  go_enter Try.func11, Try.ntmps11
  go_wp2_with fail
  refine (countOf_any _ _).mono ?_
  rintro e w1 ⟨rfl, rfl⟩
  go_wp2
  obtain ⟨tb, htb⟩ : ∃ tb, tb = w.heap.size + 1 + 1 + 1 + 1 := ⟨_, rfl⟩
  rw [← htb]
  have START := hidden (out_start w tb mc u htb s X HS0.out)
  clear htb hmm
  generalize (Value.map (some (w.heap.size + 1 + 1 + 1))) = c6 at *
  go_loopw [16, 17] (fun v16 v17 wr => ∃ (k : Nat) (chv : Value) (ib cp : Nat → Nat), k ≤ K ∧ v16 = .int .i64 (s k : Int) ∧ v17 = .int .i64 (k : Int) ∧ OutI w wr tb w.heap.size (.int .i64 mc) (.int .u64 0) (.int .u64 0) (.int .u64 u) c6 s X k chv ib cp) (fun _ v17 wr => K - (intOf v17).toNat)
  case atStart => exact ⟨0, _, _, _, Nat.zero_le _, by rw [HS0.out]; rfl, rfl, START.out⟩
  case round =>
    obtain ⟨k, chv, ib, cp, hk, rfl, rfl, hO⟩ := hrel
    have HO := hidden hO
    clear hO START
    by_cases hlt : k < K
    · obtain ⟨bE, oE, rfl, _, cE⟩ := CRow.pick HE.out hlt
      have cE' := cell_below HO.out.bl.below (Nat.le_refl _) cE
      have hn1 := hle.out (k + 1) (by omega)
      have hstep := HST.out k hlt
      have fw : IntKind.i64.wrap ((s (k + 1) : Int) - (s k : Int)) = ((s (k + 1) - s k : Nat) : Int) := by rw [IntKind.wrap_i64]; omega
      have hmk := fun w => make57 (s (k + 1) - s k) (by omega) w
      have CE := hidden cE
      clear cE
      have IS := hidden (in_start HO.out.bl (s (k + 1) - s k) (by omega))
      go_wp2
      clear hmk fw cE'
      go_loopw [18, 19] (fun v18 v19 wr => ∃ (i g cp0 : Nat), s k ≤ i ∧ i ≤ s (k + 1) ∧ v19 = .int .i64 (i : Int) ∧ v18 = .slice (some ⟨g, 0, none⟩) (i - s k) cp0 ∧ InI w wr tb w.heap.size (.int .i64 mc) (.int .u64 0) (.int .u64 0) (.int .u64 u) c6 s X k i g (i - s k) cp0 chv ib cp) (fun _ v19 wr => s (k + 1) - (intOf v19).toNat)
      case atStart => exact ⟨s k, _, _, Nat.le_refl _, by omega, rfl, by rw [Nat.sub_self], ⟨HO.out.bl.more (World.grownBy_alloc _ _ _), HO.out.mp.alloc _, by rw [Nat.sub_self]; exact IS.out.1, IS.out.2⟩⟩
      case round =>
        obtain ⟨i, g, cp0, hi1, hi2, rfl, rfl, hI⟩ := hrel
        have HI := hidden hI
        clear hI IS HO
        have cE' := cell_below HI.out.bl.below (Nat.le_refl _) CE.out
        by_cases hil : i < s (k + 1)
        · have hin : i < n := by omega
          obtain ⟨bH, oH, rfl, _, cH⟩ := CRow.pick HH.out hin
          obtain ⟨bT, oT, rfl, _, cT⟩ := CRow.pick HT.out hin
          obtain ⟨bV, oV, rfl, _, cV⟩ := CRow.pick HV.out hin
          obtain ⟨bB, oB, rfl, _, cB⟩ := CRow.pick HB.out hin
          have cH' := cell_below HI.out.bl.below (Nat.le_refl _) cH
          have cT' := cell_below HI.out.bl.below (Nat.le_refl _) cT
          have cV' := cell_below HI.out.bl.below (Nat.le_refl _) cV
          have cB' := cell_below HI.out.bl.below (Nat.le_refl _) cB
          have lH : bH < wr.heap.size := World.block_lt_of_cell? _ _ cH'
          have lT : bT < wr.heap.size := World.block_lt_of_cell? _ _ cT'
          have lV : bV < wr.heap.size := World.block_lt_of_cell? _ _ cV'
          have lB : bB < wr.heap.size := World.block_lt_of_cell? _ _ cB'
          have CH := hidden cH
          clear cH cT cV cB
          have hiz : (i : Int) < (n : Int) := by omega
          have hie : (i : Int) < (s (k + 1) : Int) := by omega
          go_wp2
          go_cut [20] from 46 to 86 (fun v20 wx => ∃ p : Nat, v20 = .pointer (some ⟨p, 0, none⟩) ∧ wx.heap[p]? = some (.cells (entCells (X i)).toArray 35 (0, 0)) ∧ wr.grownBy wx none)
          case first =>
            go_region_held3 (fun W => W.cell? ⟨bH, oH + i, none⟩ = some (.string (X i).h) ∧ W.cell? ⟨bT, oT + i, none⟩ = some (.string (X i).t) ∧ W.cell? ⟨bV, oV + i, none⟩ = some (.int .u64 ((X i).v : Int)) ∧ W.cell? ⟨bB, oB + i, none⟩ = some (.int .i64 (X i).b)) (go_keep)
              (first | (go_at_call 15; refine (unitOf_any _ _).mono ?_; rintro e w' ⟨rfl, rfl⟩))
            all_goals go_wp2_with fail
            all_goals go_meet
            all_goals first | exact ⟨_, rfl, two_snd _ _, grown_two _ _⟩ | exact ⟨_, rfl, two_fst _ _, grown_two _ _⟩
          case rest =>
            obtain ⟨p, rfl, hp, hgr⟩ := hcut
            have hent := ent_at hp
            obtain ⟨e0, e1, e2, e3, e4, e5, e6⟩ := hent
            simp only [Nat.zero_add] at e1 e2 e3 e4 e5 e6
            have OWN := hidden (HI.out.it.kept hgr (.inr (by simp [Value.ownBlock])))
            have HBS := hidden (Nat.le_trans HI.out.bl.below.size hgr.size)
            have HP := hidden hp
            have HG := hidden hgr
            clear hp hgr cH' cT' cV' cB' lH lT lV lB
            obtain ⟨i0, hi0, hz0, hz1, hz2⟩ := info_parts Try.info60
            have NEWS := hidden (slot_news (X i) wc)
            go_wp2_with (at_builtin; refine wpList_append_lies _ rfl (.tmp 72) (.tmp 75) 57 rfl w.heap.size 60 i0 (.agg (slCell noEnt).toArray) 8 80 Try.underlying57 hi0 hz0 hz1 hz2 rfl (by decide) _ (i - s k) (slCells X (s k) (i - s k)) rfl (World.ownsRow.alloc OWN.out _) ⟨wc.heap.size, 0, none⟩ 1 1 (slCell (X i)) rfl rfl NEWS.out (slot_one (X i)) (by decide) (by unfold maxLen; omega) (by omega) (by have := HBS.out; simp; omega) (wc.heap.size + 1) (by simp) ?_; intro g2 cap2 w3 hown3 hgr3 hat3 hlt3)
            obtain ⟨bl3, mp3, hp3⟩ := in_app HI.out HG.out HP.out hgr3
            obtain ⟨t1, _, _⟩ := lies_tab bl3
            obtain ⟨_, _, q2, q3, _, _, _⟩ := ent_at hp3
            simp only [Nat.zero_add] at q2 q3
            have q1 := cell_below bl3.below (Nat.le_refl _) CH.out
            obtain ⟨w4, hrun, hown4, hturn4⟩ := World.ownsMap.store (w := w3.drew) mp3 (Go.Maps.string_keyed Try.underlying9) Try.underlying47 (by unfold maxLen; omega) (Go.WideMaps.keyOf_string_mk Try.underlying9 (HSZ.out i hin)) (uR_mk _)
            have hnx := in_next HI.out hi1 rfl HG.out bl3 hown3 hat3 hown4 hturn4
            obtain ⟨t4, _, _⟩ := lies_tab hnx.bl
            have r1 := cell_below hnx.bl.below (Nat.le_refl _) CH.out
            have hp4 := (hturn4.grown.block _ (lt_heap (w := w3.drew) hp3) (fun e => by
              simp at e
              obtain ⟨es, cl, _, _, hmb, _⟩ := hturn4
              have hp3' : w3.drew.heap[p]? = some (.cells (entCells (X i)).toArray 35 (0, 0)) := hp3
              rw [e, hmb] at hp3'
              simp at hp3')).trans hp3
            obtain ⟨_, _, r2, r3, _, _, _⟩ := ent_at hp4
            simp only [Nat.zero_add] at r2 r3
            have NX := hidden hnx
            clear hnx hown4 hturn4 bl3 mp3 hp3 hp4 hown3 hgr3 hat3 hlt3 e0 e1 e2 e3 e4 e5 e6 hi0 hz0 hz1 hz2 HP HG HBS OWN NEWS
            go_region_held3 (fun W => W.cell? ⟨tb, 0, none⟩ = some (.map (some w.heap.size)) ∧ W.cell? ⟨bH, oH + i, none⟩ = some (.string (X i).h) ∧ W.cell? ⟨p, 2, none⟩ = some (.int .u64 0) ∧ W.cell? ⟨p, 3, none⟩ = some (.int .u64 ((X i).v : Int))) (go_keep) (fail)
            go_wp2
            go_roundw
            case rel => exact ⟨i + 1, g2, cap2, by omega, by omega, by go_num, by rw [show i + 1 - s k = i - s k + 1 by omega], NX.out⟩
            case measure => simp [intOf]; omega
        · obtain rfl : i = s (k + 1) := by omega
          have hnie : decide ((s (k + 1) : Int) < (s (k + 1) : Int)) = false := by simp
          obtain ⟨_, t2, t3⟩ := lies_tab HI.out.bl
          have ltb := lt_heap HI.out.bl.tab
          obtain ⟨i0, hi0, hz0, hz1, hz2⟩ := info_parts Try.info62
          have ROW := hidden HI.out.bl.row
          have HBS := hidden HI.out.bl.below.size
          have NEWS := hidden (chunk_news g (s (k + 1) - s k) cp0 (s (k + 1)) wr)
          clear t3
          go_wp2
          go_cut [17] from 32 to 107 (fun v17 wx => v17 = .int .i64 (k : Int) ∧ ∃ chv' ib' cp', OutI w wx tb w.heap.size (.int .i64 mc) (.int .u64 0) (.int .u64 0) (.int .u64 u) c6 s X (k + 1) chv' ib' cp')
          case first =>
            go_region_law (refine step_append_lies _ rfl (.tmp 92) (.tmp 99) 52 rfl w.heap.size 62 i0 (.agg #[.slice none 0 0, .int .i64 0, .int .i8 0, .bool false]) 4 40 Try.underlying52 hi0 hz0 hz1 hz2 rfl (by decide) chv k (chCells s ib cp k) rfl (World.ownsRow.alloc ROW.out _) ⟨wr.heap.size, 0, none⟩ 1 1 (chCell g (s (k + 1) - s k) cp0 (s (k + 1))) rfl rfl NEWS.out (chunk_one _ _ _ _) (by decide) (by unfold maxLen; omega) (by omega) (by have := HBS.out; simp; omega) (wr.heap.size + 1) (by simp) ?_; intro g2 cap2 w3 hown3 hgr3 hat3 hlt3; obtain ⟨f1, f2⟩ := Bl.tab_far HI.out.bl (grown_drew (World.grownBy_alloc _ _ _)) hgr3)
            all_goals go_wp2_with fail
            all_goals go_meet
            all_goals exact ⟨rfl, _, _, _, ⟨Bl.push HI.out.bl rfl HI.out.it HI.out.sep (grown_drew (World.grownBy_alloc _ _ _)) (by assumption) (by assumption), map_far HI.out.bl (grown_drew (World.grownBy_alloc _ _ _)) (by assumption) HI.out.mp _⟩⟩
          case rest =>
            obtain ⟨rfl, chv', ib', cp', hO'⟩ := hcut
            have cE2 := cell_below hO'.bl.below (Nat.le_refl _) CE.out
            have HO' := hidden hO'
            clear hO' HI ROW HBS NEWS hi0 hz0 hz1 hz2 t2 cE'
            go_wp2
            go_roundw
            case rel => exact ⟨k + 1, chv', ib', cp', by omega, rfl, by go_num, HO'.out⟩
            case measure => simp [intOf]; omega
    · obtain rfl : k = K := by omega
      have hnk : decide ((k : Int) < (k : Int)) = false := by simp
      go_wp2
      go_ret
      obtain ⟨a, cK, cb, hlst⟩ := HO.out.bl.lst hK hn HS0.out HSL.out HST.out
      have hm := HO.out.mp
      rw [HSL.out] at hm
      exact ⟨tb, _, a, cK, cb, ib, cp, rfl, hlst, (lies_tab HO.out.bl).1, hm, HO.out.bl.below⟩

end Go.Proofs.Qxb6615804a
