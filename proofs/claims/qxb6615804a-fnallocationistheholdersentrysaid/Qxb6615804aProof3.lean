import Derived.Test.Qxb6615804aLaw3
import Derived.Test.Qxb6615804aOpen
import Derived.OpenShut
import Derived.ShutString
import Derived.ChangeOld
namespace Go.Proofs.Qxb6615804a.fnAllocationIsTheHoldersEntry
open Go.ChangeShapes Go.WideShapes Go.ChangeAt Go.RowKit
open Go.ChangeMaps (open_string shut_string)
set_option linter.unusedVariables false

theorem own : ownKnob Try.prog.godebug = none := by kernel_rfl
theorem laidOut : laidOutB Try.prog = true := by kernel_rfl

set_option maxRecDepth 100000 in
set_option maxHeartbeats 1000000 in
theorem lifted (os : Os) (started : os.Started) (H : Type) (enc : TypeId × Value → H) :
    ReturnsInHanded {} Try.checked os 3 .any (Rows.fnAllocationIsTheHoldersEntrySpec.pre6 enc Try.prog Try.f3 Rows.fnAllocationIsTheHoldersEntryRow.domain false) (Rows.fnAllocationIsTheHoldersEntrySpec.post enc Try.prog Try.f3 false true false false) := by
  refine returnsInHanded_of_change (C := Try.checked) own started (by kernel_rfl) Try.func3
    (ChangeSpec.witness6 (enc := enc) (C := Try.checked) false ⟨#[], #[.slice none 0 0, .slice none 0 0, .slice none 0 0, .slice none 0 0, .slice none 0 0, .slice none 0 0, .int .i64 0, .int .u64 0, .string ByteArray.empty], []⟩ 8 (by kernel_rfl) (by kernel_rfl) (by kernel_rfl) (by kernel_rfl)) ?_
  intro W base args ds gs before hval0 hW hcnd _
  have hval : ∀ (j : Nat) t v, Try.f3.params[j]? = some t → args[j]? = some v → Value.okWide Try.prog W .any base t v := hval0
  have hW' := hW
  obtain ⟨p, q, hA0, hV, rfl, hfz, hnd⟩ := hW
  have hA : DataW.TrodAll enc Try.prog W 0 (fun _ => true) true Try.f3.params.toList args.toList ds p := hA0
  rw [Try.params3] at hA hval
  obtain ⟨v0, vs0, d0, ds0, p0, q0, hargs, rfl, rfl, h0, r0⟩ := trodAll_cons hA
  obtain ⟨v1, vs1, d1, ds1, p1, q1, rfl, rfl, rfl, h1, r1⟩ := trodAll_cons r0
  obtain ⟨v2, vs2, d2, ds2, p2, q2, rfl, rfl, rfl, h2, r2⟩ := trodAll_cons r1
  obtain ⟨v3, vs3, d3, ds3, p3, q3, rfl, rfl, rfl, h3, r3⟩ := trodAll_cons r2
  obtain ⟨v4, vs4, d4, ds4, p4, q4, rfl, rfl, rfl, h4, r4⟩ := trodAll_cons r3
  obtain ⟨v5, vs5, d5, ds5, p5, q5, rfl, rfl, rfl, h5, r5⟩ := trodAll_cons r4
  obtain ⟨v6, vs6, d6, ds6, p6, q6, rfl, rfl, rfl, h6, r6⟩ := trodAll_cons r5
  obtain ⟨v7, vs7, d7, ds7, p7, q7, rfl, rfl, rfl, h7, r7⟩ := trodAll_cons r6
  obtain ⟨v8, vs8, d8, ds8, p8, q8, rfl, rfl, rfl, h8, r8⟩ := trodAll_cons r7
  obtain ⟨rfl, rfl, rfl⟩ := trodAll_nil r8
  obtain rfl : args = #[v0, v1, v2, v3, v4, v5, v6, v7, v8] := by cases args; simp_all
  obtain ⟨rfl, rfl⟩ := trodVars_none hV
  obtain ⟨a0, len0, cap0, rfl⟩ := okWide_slice Try.underlying22 (hval 0 22 v0 rfl rfl)
  obtain ⟨a1, len1, cap1, rfl⟩ := okWide_slice Try.underlying22 (hval 1 22 v1 rfl rfl)
  obtain ⟨a2, len2, cap2, rfl⟩ := okWide_slice Try.underlying23 (hval 2 23 v2 rfl rfl)
  obtain ⟨a3, len3, cap3, rfl⟩ := okWide_slice Try.underlying24 (hval 3 24 v3 rfl rfl)
  obtain ⟨a4, len4, cap4, rfl⟩ := okWide_slice Try.underlying24 (hval 4 24 v4 rfl rfl)
  obtain ⟨a5, len5, cap5, rfl⟩ := okWide_slice Try.underlying24 (hval 5 24 v5 rfl rfl)
  have lt0 : ∀ x ∈ p0, x.block < W.heap.size := by obtain ⟨m, hm⟩ := h0; exact DataW.trod_lt m _ _ _ hm
  have lt1 : ∀ x ∈ p1, x.block < W.heap.size := by obtain ⟨m, hm⟩ := h1; exact DataW.trod_lt m _ _ _ hm
  have lt2 : ∀ x ∈ p2, x.block < W.heap.size := by obtain ⟨m, hm⟩ := h2; exact DataW.trod_lt m _ _ _ hm
  have lt3 : ∀ x ∈ p3, x.block < W.heap.size := by obtain ⟨m, hm⟩ := h3; exact DataW.trod_lt m _ _ _ hm
  have lt4 : ∀ x ∈ p4, x.block < W.heap.size := by obtain ⟨m, hm⟩ := h4; exact DataW.trod_lt m _ _ _ hm
  have lt5 : ∀ x ∈ p5, x.block < W.heap.size := by obtain ⟨m, hm⟩ := h5; exact DataW.trod_lt m _ _ _ hm
  have strs : ∀ {a : Option Addr} {len cap : Nat} {d p}, DataW.Trod enc Try.prog W 0 (fun _ => true) true 22 (.slice a len cap) d p → ∃ S : Nat → ByteArray, CRow W a len (fun i => .string (S i)) ∧ (∀ i, i < len → (S i).size ≤ maxLen) ∧ len ≤ maxLen := by
    intro a len cap d p h
    obtain ⟨fuel, hf⟩ := h
    rcases open_strings Try.underlying22 Try.underlying9 (by kernel_rfl) hf with ⟨hcs, _⟩ | ⟨x, l, c, zs, hcs, _, hl, hm, hz, _, hcell, hwz⟩
    · simp [Value.cells] at hcs
      obtain ⟨rfl, rfl, rfl⟩ := hcs
      exact ⟨fun _ => ByteArray.empty, .inl rfl, fun i hi => absurd hi (by omega), Nat.zero_le _⟩
    · simp [Value.cells] at hcs
      obtain ⟨rfl, rfl, rfl⟩ := hcs
      have hz' : zs.length = cap := by simpa using hz
      refine ⟨fun i => zs.getD i ByteArray.empty, crow_of (m := zs.length) (by omega) hcell, fun i hi => ?_, by omega⟩
      have e : zs.getD i ByteArray.empty = zs[i]'(by omega) := by simp [show i < zs.length by omega]
      simp only [e]
      exact hwz _ (List.getElem_mem _)
  have ints : ∀ {a : Option Addr} {len cap : Nat} {d p}, DataW.Trod enc Try.prog W 0 (fun _ => true) true 24 (.slice a len cap) d p → ∃ Z : Nat → Int, CRow W a len (fun i => .int .i64 (Z i)) := by
    intro a len cap d p h
    obtain ⟨fuel, hf⟩ := h
    rcases open_ints Try.underlying24 Try.underlying3 (by kernel_rfl) hf with ⟨hcs, _⟩ | ⟨x, l, c, zs, hcs, _, hl, hm, hz, _, hcell, hwz⟩
    · simp [Value.cells] at hcs
      obtain ⟨rfl, rfl, rfl⟩ := hcs
      exact ⟨fun _ => 0, .inl rfl⟩
    · simp [Value.cells] at hcs
      obtain ⟨rfl, rfl, rfl⟩ := hcs
      have hz' : zs.length = cap := by simpa using hz
      exact ⟨fun i => zs.getD i 0, crow_of (m := zs.length) (by omega) hcell⟩
  obtain ⟨S0, c0, s0, m0⟩ := strs h0
  obtain ⟨S1, c1, s1, m1⟩ := strs h1
  obtain ⟨V, cV, hVb⟩ : ∃ V : Nat → Nat, CRow W a2 len2 (fun i => .int .u64 (V i : Int)) ∧ ∀ i, i < len2 → V i < 18446744073709551616 := by
    obtain ⟨fuel, hf⟩ := h2
    rcases open_ints Try.underlying23 Try.underlying25 (by kernel_rfl) hf with ⟨hcs, _⟩ | ⟨x, l, c, zs, hcs, _, hl, hm, hz, _, hcell, hwz⟩
    · simp [Value.cells] at hcs
      obtain ⟨rfl, rfl, rfl⟩ := hcs
      exact ⟨fun _ => 0, .inl rfl, fun i hi => absurd hi (by omega)⟩
    · simp [Value.cells] at hcs
      obtain ⟨rfl, rfl, rfl⟩ := hcs
      have hz' : zs.length = cap2 := by simpa using hz
      exact ⟨fun i => (zs.getD i 0).toNat, u64_row (by omega) hcell hwz⟩
  obtain ⟨Z3, c3⟩ := ints h3
  obtain ⟨Z4, c4⟩ := ints h4
  obtain ⟨Z5, c5⟩ := ints h5
  obtain ⟨x6, rfl, rfl, rfl, w6⟩ := open_int Try.underlying3 (hval 6 3 v6 rfl rfl) h6
  obtain ⟨x7, rfl, rfl, rfl, w7⟩ := open_int Try.underlying25 (hval 7 25 v7 rfl rfl) h7
  obtain ⟨x8, rfl, rfl, rfl, w8⟩ := open_string Try.underlying9 (hval 8 9 v8 rfl rfl) h8
  have b6 : -9223372036854775808 ≤ x6 ∧ x6 ≤ 9223372036854775807 := by
    have m1 : IntKind.i64.min = -9223372036854775808 := by decide
    have m2 : IntKind.i64.max = 9223372036854775807 := by decide
    simp [Lit.wf] at w6
    omega
  clear hA0 hval0
  refine (law3_any W a0 a1 a2 a3 a4 a5 len0 len1 len2 len3 len4 len5 cap0 cap1 cap2 cap3 cap4 cap5 S0 S1 V Z3 Z4 Z5 x6 x7 x8 c0 c1 cV c3 c4 c5 m0 m1 b6.1 b6.2 hVb s0 w8).mono fun e W' ⟨he, bel⟩ => ?_
  subst he
  exact ⟨_, rfl, _, _, _, [], _, [], hW', trodAll_mk1 (shut_bool Try.underlying4 _), (trodAll_cons_mk (Below.trod laidOut (by kernel_rfl) (of_decide_eq_true (by kernel_rfl)) h0 bel lt0) (trodAll_cons_mk (Below.trod laidOut (by kernel_rfl) (of_decide_eq_true (by kernel_rfl)) h1 bel lt1) (trodAll_cons_mk (Below.trod laidOut (by kernel_rfl) (of_decide_eq_true (by kernel_rfl)) h2 bel lt2) (trodAll_cons_mk (Below.trod laidOut (by kernel_rfl) (of_decide_eq_true (by kernel_rfl)) h3 bel lt3) (trodAll_cons_mk (Below.trod laidOut (by kernel_rfl) (of_decide_eq_true (by kernel_rfl)) h4 bel lt4) (trodAll_cons_mk (Below.trod laidOut (by kernel_rfl) (of_decide_eq_true (by kernel_rfl)) h5 bel lt5) (trodAll_cons_mk (shut_int Try.underlying3 w6) (trodAll_cons_mk (shut_int Try.underlying25 w7) (trodAll_cons_mk (shut_string Try.underlying9 w8) trodAll_mk0))))))))), rfl, bel.frame _, fun h => by cases h⟩

theorem over : Rows.fnAllocationIsTheHoldersEntryRow.holds Try.pinned (OpenSpec.ofChange Rows.fnAllocationIsTheHoldersEntrySpec) :=
  OpenClaim.holds_of_wide 3 Try.f3 rfl rfl rfl rfl rfl rfl rfl ⟨rfl, rfl, rfl, rfl, rfl⟩ rfl rfl rfl rfl rfl (by kernel_rfl) Try.func3 (by kernel_rfl)
    (of_decide_eq_true (by kernel_rfl)) (by unfold Func.isWrapper; first | (rw [if_pos (by decide +kernel)]; kernel_rfl) | (rw [if_neg (by decide +kernel)]; exact ⟨rfl, rfl⟩))
    (fun os started H enc _ => lifted os started H enc)

theorem proved : Rows.FnAllocationIsTheHoldersEntrySaid := over
#print axioms proved
end Go.Proofs.Qxb6615804a.fnAllocationIsTheHoldersEntry
