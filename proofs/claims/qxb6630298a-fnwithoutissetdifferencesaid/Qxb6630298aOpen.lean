/-
  THE ARGUMENTS: a slice of events, as the row reads it.
-/
import Derived.Test.Qxb6630298aHeld
import Derived.Deep.Strs
import Derived.ChangeMaps5
import Derived.DataShut
namespace Go.Proofs.Qxb6630298a
open Go.RowKit Go.Maps Go.ChangeShapes Go.WideShapes

theorem cells26 : Try.prog.cellsOf 26 = 3 := by kernel_rfl
theorem cells9 : Try.prog.cellsOf 9 = 1 := by kernel_rfl
theorem cells24 : Try.prog.cellsOf 24 = 1 := by kernel_rfl

theorem wf_u64' {x : Int} (h : (Lit.int .u64 x).wf = true) : 0 ≤ x ∧ x ≤ 18446744073709551615 := (Lit.wf_int_iff .u64 x).1 h

theorem open_ev {H : Type} {enc : TypeId × Value → H} {w : World} {base : Nat} {spare : Nat → Bool} {held : Bool} {n : Nat} {cs : List Value} {y : DataW H × List MemPlace} (h : DataW.trod enc Try.prog w base spare held n 26 cs = some y) :
    ∃ e : Evt, cs = [.string e.1, .int .u64 e.2.1, .int .u64 e.2.2] ∧ e.1.size ≤ maxLen ∧ 0 ≤ e.2.1 ∧ e.2.1 ≤ 18446744073709551615 ∧ 0 ≤ e.2.2 ∧ e.2.2 ≤ 18446744073709551615 := by
  obtain ⟨y0, y1, y2, m, _, hl, h0, h1, h2⟩ := Go.Deep.trod_struct3 Try.underlying26 h
  rw [cells26] at hl
  match cs, hl with
  | [a, b, c], _ =>
    simp only [cells9, cells24, List.drop_zero, List.take_succ_cons, List.take_zero, List.drop_succ_cons] at h0 h1 h2
    obtain ⟨s, e0, _, hs⟩ := DataW.trod_string Try.underlying9 h0
    obtain ⟨x, e1, _, hx⟩ := DataW.trod_int Try.underlying24 h1
    obtain ⟨z, e2, _, hz⟩ := DataW.trod_int Try.underlying24 h2
    cases e0
    cases e1
    cases e2
    have hx' := wf_u64' hx
    have hz' := wf_u64' hz
    exact ⟨(s, x, z), rfl, hs, hx'.1, hx'.2, hz'.1, hz'.2⟩

theorem open_evs {H : Type} {enc : TypeId × Value → H} {w : World} {base : Nat} {spare : Nat → Bool} {held : Bool} {fuel : Nat} {ao : Option Addr} {len cap : Nat} {x : DataW H × List MemPlace} (h : DataW.trod enc Try.prog w base spare held fuel 22 [.slice ao len cap] = some x) :
    ∃ L : List Evt, EvS w (.slice ao len cap) L ∧ len = L.length ∧ WfE L := by
  rcases Go.Deep.open_slice Try.underlying22 h with ⟨hcs, _⟩ | ⟨a, len', cap', m, n, D, Pl, hcs, hb, hl, hm, hmm, _, hx⟩
  · simp only [List.cons.injEq, Value.slice.injEq, and_true] at hcs
    obtain ⟨rfl, rfl, rfl⟩ := hcs
    exact ⟨[], ⟨none, 0, 0, rfl, rfl, fun h => absurd rfl h⟩, rfl, fun e he => by simp at he⟩
  · simp only [List.cons.injEq, Value.slice.injEq, and_true] at hcs
    obtain ⟨rfl, rfl, rfl⟩ := hcs
    have hlm : len ≤ m := by rw [hmm]; split <;> omega
    obtain ⟨f, hf⟩ := Go.Deep.choose_lt (α := Evt) (n := len) (p := fun i e => (w.cell? (a.add (i * 3)) = some (.string e.1) ∧ w.cell? ((a.add (i * 3)).add 1) = some (.int .u64 e.2.1) ∧ w.cell? ((a.add (i * 3)).add 2) = some (.int .u64 e.2.2)) ∧
        (e.1.size ≤ maxLen ∧ 0 ≤ e.2.1 ∧ e.2.1 ≤ 18446744073709551615 ∧ 0 ≤ e.2.2 ∧ e.2.2 ≤ 18446744073709551615)) (fun i hi => by
      obtain ⟨cs', hc, ht⟩ := hx i (by omega)
      obtain ⟨e, rfl, hw⟩ := open_ev ht
      rw [cells26] at hc
      obtain ⟨_, _, hcell⟩ := World.cells?_some hc
      refine ⟨e, ⟨?_, ?_, ?_⟩, hw⟩
      · simpa [Addr.add] using hcell 0 (by omega)
      · simpa using hcell 1 (by omega)
      · simpa using hcell 2 (by omega))
    refine ⟨(List.range len).map f, ⟨some a, len, cap, rfl, by simp, fun hne => ?_⟩, by simp, fun e he => ?_⟩
    · have hpos : 0 < len := by
        rcases Nat.eq_zero_or_pos len with h0 | h0
        · subst h0; exact absurd rfl hne
        · exact h0
      obtain ⟨g, off, sp⟩ := a
      have hsp : sp = none := by
        have h0 := (hf 0 hpos).1.1
        cases sp with
        | none => rfl
        | some k =>
          unfold World.cell? at h0
          simp only [Nat.zero_mul, Addr.add, if_true, Option.isSome_some] at h0
          split at h0 <;> cases h0
      subst hsp
      refine ⟨g, off, rfl, World.block_lt_of_cell? w _ (hf 0 hpos).1.1, fun i hi => ?_⟩
      obtain ⟨h1, h2, h3⟩ := (hf i hi).1
      simp only [add_plain] at h1 h2 h3
      have e : ((List.range len).map f).getD i evt0 = f i := by simp [List.getD, hi]
      rw [e]
      exact ⟨h1, h2, h3⟩
    · obtain ⟨i, hi, rfl⟩ := List.mem_map.1 he
      exact (hf i (List.mem_range.1 hi)).2
end Go.Proofs.Qxb6630298a
