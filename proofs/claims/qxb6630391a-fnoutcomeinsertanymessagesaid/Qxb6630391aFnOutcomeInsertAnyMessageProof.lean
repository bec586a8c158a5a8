/-
  A PROOF OF 'Rows.FnOutcomeInsertAnyMessageSaid': the frame after the guide's own way (howto/template/XProofs.lean, proof-skeleton.mjs's shell for slices), a slice of strings besides.
-/
import Derived.Test.Qxb6630391aInsertLaw
import Derived.WalkKit
import Derived.ProofKit
import Derived.OpenShut
import Derived.ShutString
import Derived.ChangeOld
import Derived.Below
import Derived.SliceStrings
namespace Go.Proofs.Qxb6630391a.fnOutcomeInsertAnyMessage
open Go.ChangeShapes Go.WideShapes Go.ChangeAt Go.RowKit
open Go.ChangeMaps (open_string shut_string)
set_option linter.unusedVariables false

theorem own : ownKnob Try.prog.godebug = none := by kernel_rfl
theorem laidOut : laidOutB Try.prog = true := by kernel_rfl

/-- WHAT THE WALK IS TOLD OF A SLICE OF STRINGS THAT CAME IN. -/
def IsStrs (w : World) (a : Option Addr) (len cap : Nat) (ss : List ByteArray) : Prop :=
  (a = none ∧ len = 0 ∧ cap = 0 ∧ ss = []) ∨
  ∃ x, a = some x ∧ len ≤ cap ∧ cap ≤ maxLen ∧ ss.length = cap ∧ (∀ i, i < ss.length → w.cell? (x.add i) = some (.string (ss.getD i ByteArray.empty))) ∧ ∀ s ∈ ss, s.size ≤ maxLen
theorem IsStrs.elems {w : World} {a : Option Addr} {len cap : Nat} {ss : List ByteArray} (h : IsStrs w a len cap ss) : SElems w a len (ss.take len) := by
  rcases h with ⟨rfl, rfl, rfl, rfl⟩ | ⟨x, rfl, hl, hm, hz, hc, hw⟩
  · exact ⟨rfl, by simp, fun h => by omega⟩
  · refine ⟨by simp; omega, fun s hs => hw s (List.mem_of_mem_take hs), fun h0 => ?_⟩
    obtain ⟨b, off, spot⟩ := x
    have hspot : spot = none := by simpa [Addr.add] using World.cell?_spot (hc 0 (by omega))
    subst hspot
    refine ⟨b, off, rfl, World.block_lt_of_cell? w _ (hc 0 (by omega)), fun i hi => ?_⟩
    have h := hc i (by omega)
    rw [Addr.add_lit] at h
    rw [h]
    simp [List.getD, hi]

set_option maxRecDepth 100000 in
set_option maxHeartbeats 2000000 in
theorem walk (a0 : ByteArray) (a1 : ByteArray) (a2 : Option Addr) (len2 cap2 : Nat) (z2 : List Int) (a3 : Option Addr) (len3 cap3 : Nat) (z3 : List ByteArray) (a4 a5 : Int) (a6 : ByteArray) (w : World) (w0 : a0.size ≤ maxLen) (w1 : a1.size ≤ maxLen) (w2 : IsRow .i64 w a2 len2 cap2 z2) (w3 : IsStrs w a3 len3 cap3 z3) (w6 : a6.size ≤ maxLen) :
    Calls Try.prog 3 #[.string a0, .string a1, .slice a2 len2 cap2, .slice a3 len3 cap3, .int .i64 a4, .int .i64 a5, .string a6] w fun e w' => e = .returned (.bool true) ∧ Below w.heap.size w w' := by
  have e2 := w2.elems
  have e3 := w3.elems
  have l2 : len2 ≤ maxLen := by rcases w2 with ⟨_, rfl, _⟩ | ⟨_, _, h1, h2, _⟩ <;> omega
  have l3 : len3 ≤ maxLen := by rcases w3 with ⟨_, rfl, _⟩ | ⟨_, _, h1, h2, _⟩ <;> omega
  obtain ⟨A, hA⟩ : ∃ A, A = z2.take len2 := ⟨_, rfl⟩
  obtain ⟨B, hB⟩ : ∃ B, B = z3.take len3 := ⟨_, rfl⟩
  rw [← hA] at e2
  rw [← hB] at e3
  clear w2 w3 hA hB z2 z3
  by_cases hT : a0.size + a1.size + len2 + len3 + tot B + a6.size ≤ 1048576
  rotate_left
  · have HF := (show Hid _ from bytesI_false a0 a1 a6 a2 a3 len2 cap2 len3 cap3 a4 a5 B w w0 w1 w6 l2 l3 (by omega) e3)
    clear e2 e3 hT
    go_enter Try.func3, Try.ntmps3
    go_wp2_with (go_at_call 5; refine Calls.mono HF ?_; rintro e w' ⟨rfl, rfl⟩)
    go_ret
    exact ⟨rfl, Below.refl _ _⟩
  have HT := (show Hid _ from bytesI_true a0 a1 a6 a2 a3 len2 cap2 len3 cap3 a4 a5 B w hT e3)
  by_cases h65 : len2 ≤ 65536
  rotate_left
  · clear e2 e3
    go_enter Try.func3, Try.ntmps3
    go_wp2_with (go_at_call 5; refine Calls.mono HT ?_; rintro e w' ⟨rfl, rfl⟩)
    go_ret
    exact ⟨rfl, Below.refl _ _⟩
  by_cases h66 : len3 ≤ 65536
  rotate_left
  · clear e2 e3
    go_enter Try.func3, Try.ntmps3
    go_wp2_with (go_at_call 5; refine Calls.mono HT ?_; rintro e w' ⟨rfl, rfl⟩)
    go_ret
    exact ⟨rfl, Below.refl _ _⟩
  by_cases h8 : a0.size + a1.size + a6.size + 8 * len2 + 8 * len3 ≤ 1048576
  rotate_left
  · clear e2 e3
    go_enter Try.func3, Try.ntmps3
    go_wp2_with (go_at_call 5; refine Calls.mono HT ?_; rintro e w' ⟨rfl, rfl⟩)
    go_ret
    exact ⟨rfl, Below.refl _ _⟩
  have hsz : ∀ i, i < len3 → (B.getD i ByteArray.empty).size ≤ 1048576 := fun i hi => by
    have := tot_at B i (by rw [e3.hlen]; exact hi)
    omega
  by_cases hq : len3 = len2 ∧ 0 ≤ a4 ∧ a4 ≤ len2
  · obtain ⟨rfl, hp0, hp1⟩ := hq
    obtain ⟨p, rfl⟩ := Int.eq_ofNat_of_zero_le hp0
    exact insert_main a0 a1 a6 a2 len3 cap2 a3 cap3 p a5 A B w HT (by omega) (by omega) (by omega) h65 (by omega) (by omega) hsz e2 e3
  · exact insert_skip a0 a1 a6 a2 len2 cap2 a3 len3 cap3 a4 a5 B w HT (by omega) (by omega) (by omega) h65 h66 h8 hsz e3 (by omega)

/-! ### THE ROW's STEP: WRITTEN OUT: LEAVE IT -/
set_option maxRecDepth 100000 in
theorem lifted (os : Os) (started : os.Started) (H : Type) (enc : TypeId × Value → H) :
    ReturnsInHanded {} Try.checked os 3 .any (Rows.fnOutcomeInsertAnyMessageSpec.pre6 enc Try.prog Try.f3 Rows.fnOutcomeInsertAnyMessageRow.domain false) (Rows.fnOutcomeInsertAnyMessageSpec.post enc Try.prog Try.f3 false true false false) := by
  refine returnsInHanded_of_change (C := Try.checked) own started (by kernel_rfl) Try.func3
    (ChangeSpec.witness6 (enc := enc) (C := Try.checked) false ⟨#[], #[.string ByteArray.empty, .string ByteArray.empty, .slice none 0 0, .slice none 0 0, .int .i64 0, .int .i64 0, .string ByteArray.empty], []⟩ 8 (by kernel_rfl) (by kernel_rfl) (by kernel_rfl) (by kernel_rfl)) ?_
  intro W base args ds gs before hval0 hW hcnd _
  have hval : ∀ (j : Nat) t v, Try.f3.params[j]? = some t → args[j]? = some v → Value.okWide Try.prog W .any base t v := hval0
  have hW' := hW
  obtain ⟨p, q, hA0, hV, rfl, hfz, hnd⟩ := hW
  have hA : DataW.TrodAll enc Try.prog W 0 (fun _ => true) true Try.f3.params.toList args.toList ds p := hA0
  rw [Try.params3] at hA hval
  obtain ⟨v0, vs0, d0, ds0, p0, q0, hargs, rfl, rfl, h0, r0⟩ := trodAll_cons hA
  obtain ⟨v1, vs1, d1, ds1, p1, q1, rfl, rfl, rfl, h1, r1⟩ := trodAll_cons r0
  obtain ⟨v2, vs2, d2, ds2, p2, q2, rfl, rfl, rfl, h2, r2⟩ := trodAll_cons r1
  obtain ⟨v3, vs3, d3, ds3, p3, q3, rfl, rfl, rfl, h3, r3⟩ := trodAll_cons r2
  obtain ⟨v4, vs4, d4, ds4, p4, q4, rfl, rfl, rfl, h4, r4⟩ := trodAll_cons r3
  obtain ⟨v5, vs5, d5, ds5, p5, q5, rfl, rfl, rfl, h5, r5⟩ := trodAll_cons r4
  obtain ⟨v6, vs6, d6, ds6, p6, q6, rfl, rfl, rfl, h6, r6⟩ := trodAll_cons r5
  obtain ⟨rfl, rfl, rfl⟩ := trodAll_nil r6
  obtain rfl : args = #[v0, v1, v2, v3, v4, v5, v6] := by cases args; simp_all
  obtain ⟨rfl, rfl⟩ := trodVars_none hV
  obtain ⟨a0, rfl, rfl, rfl, w0⟩ := open_string Try.underlying9 (hval 0 9 v0 rfl rfl) h0
  obtain ⟨a1, rfl, rfl, rfl, w1⟩ := open_string Try.underlying9 (hval 1 9 v1 rfl rfl) h1
  obtain ⟨a2, len2, cap2, rfl⟩ := okWide_slice Try.underlying22 (hval 2 22 v2 rfl rfl)
  have k2 := h2
  have lt2 : ∀ x ∈ p2, x.block < W.heap.size := by obtain ⟨m, hm⟩ := k2; exact DataW.trod_lt m _ _ _ hm
  obtain ⟨z2, w2⟩ : ∃ zs, IsRow .i64 W a2 len2 cap2 zs := by
    obtain ⟨fuel, hf⟩ := h2
    rcases open_ints Try.underlying22 Try.underlying3 (by kernel_rfl) hf with ⟨hcs, _⟩ | ⟨x, l, c, zs, hcs, _, hl, hm, hz, _, hcell, hwz⟩
    · simp [Value.cells] at hcs
      obtain ⟨rfl, rfl, rfl⟩ := hcs
      exact ⟨[], .inl ⟨rfl, rfl, rfl, rfl⟩⟩
    · simp [Value.cells] at hcs
      obtain ⟨rfl, rfl, rfl⟩ := hcs
      exact ⟨zs, .inr ⟨_, rfl, hl, hm, by simpa using hz, hcell, hwz⟩⟩
  obtain ⟨a3, len3, cap3, rfl⟩ := okWide_slice Try.underlying23 (hval 3 23 v3 rfl rfl)
  have k3 := h3
  have lt3 : ∀ x ∈ p3, x.block < W.heap.size := by obtain ⟨m, hm⟩ := k3; exact DataW.trod_lt m _ _ _ hm
  obtain ⟨z3, w3⟩ : ∃ zs, IsStrs W a3 len3 cap3 zs := by
    obtain ⟨fuel, hf⟩ := h3
    rcases open_strings Try.underlying23 Try.underlying9 (by kernel_rfl) hf with ⟨hcs, _⟩ | ⟨x, l, c, zs, hcs, _, hl, hm, hz, _, hcell, hwz⟩
    · simp [Value.cells] at hcs
      obtain ⟨rfl, rfl, rfl⟩ := hcs
      exact ⟨[], .inl ⟨rfl, rfl, rfl, rfl⟩⟩
    · simp [Value.cells] at hcs
      obtain ⟨rfl, rfl, rfl⟩ := hcs
      exact ⟨zs, .inr ⟨_, rfl, hl, hm, by simpa using hz, hcell, hwz⟩⟩
  obtain ⟨a4, rfl, rfl, rfl, w4⟩ := open_int Try.underlying3 (hval 4 3 v4 rfl rfl) h4
  obtain ⟨a5, rfl, rfl, rfl, w5⟩ := open_int Try.underlying3 (hval 5 3 v5 rfl rfl) h5
  obtain ⟨a6, rfl, rfl, rfl, w6⟩ := open_string Try.underlying9 (hval 6 9 v6 rfl rfl) h6
  clear hA0 hval0
  refine (walk a0 a1 a2 len2 cap2 z2 a3 len3 cap3 z3 a4 a5 a6 W w0 w1 w2 w3 w6).mono fun e W' ⟨he, bel⟩ => ?_
  subst he
  exact ⟨_, rfl, _, _, _, [], _, [], hW', trodAll_mk1 (shut_bool Try.underlying4 _), (trodAll_cons_mk (shut_string Try.underlying9 w0) (trodAll_cons_mk (shut_string Try.underlying9 w1) (trodAll_cons_mk (Below.trod laidOut (by kernel_rfl) (of_decide_eq_true (by kernel_rfl)) k2 bel lt2) (trodAll_cons_mk (Below.trod laidOut (by kernel_rfl) (of_decide_eq_true (by kernel_rfl)) k3 bel lt3) (trodAll_cons_mk (shut_int Try.underlying3 w4) (trodAll_cons_mk (shut_int Try.underlying3 w5) (trodAll_cons_mk (shut_string Try.underlying9 w6) trodAll_mk0))))))), rfl, bel.frame _, fun h => by cases h⟩

theorem over : Rows.fnOutcomeInsertAnyMessageRow.holds Try.pinned (OpenSpec.ofChange Rows.fnOutcomeInsertAnyMessageSpec) :=
  OpenClaim.holds_of_wide 3 Try.f3 rfl rfl rfl rfl rfl rfl rfl ⟨rfl, rfl, rfl, rfl, rfl⟩ rfl rfl rfl rfl rfl (by kernel_rfl) Try.func3 (by kernel_rfl)
    (of_decide_eq_true (by kernel_rfl)) (by unfold Func.isWrapper; first | (rw [if_pos (by decide +kernel)]; kernel_rfl) | (rw [if_neg (by decide +kernel)]; exact ⟨rfl, rfl⟩))
    (fun os started H enc _ => lifted os started H enc)

/-- ████ THE STATEMENT ████ -/
theorem proved : Rows.FnOutcomeInsertAnyMessageSaid := over
end Go.Proofs.Qxb6630391a.fnOutcomeInsertAnyMessage
