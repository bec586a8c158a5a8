/-
  THE WALKS of zzSameStrings and zzSameSpans, at equal lists.
-/
import Derived.Test.Qxb6630298aRanges
import Derived.Sort.EncStr
import Derived.Deep.QuietTactic
import Derived.BigQuiet
import Derived.Deep.DeepCutAuto
namespace Go.Proofs.Qxb6630298a
open Go.RowKit Go.Maps

/-- A slice of strings that reads as S; its row lies where P says. -/
def StrS (w : World) (P : Nat → Prop) (V : Value) (S : List (List UInt8)) : Prop :=
  ∃ ao n c, V = .slice ao n c ∧ n = S.length ∧ (S ≠ [] → ∃ g off cur, ao = some ⟨g, off, none⟩ ∧ P g ∧ w.heap[g]? = some (.cells cur 9 (0, 0)) ∧ ∀ i, i < n → cur[off + i]? = some (encStr (S.getD i [])))
theorem StrS.later {w w' : World} {P G : Nat → Prop} {V : Value} {S : List (List UInt8)} (h : StrS w P V S) (k : Kept G w w') (hG : ∀ i, i < w.heap.size → P i → ¬ G i) : StrS w' P V S := by
  obtain ⟨ao, n, c, e, hn, hr⟩ := h
  refine ⟨ao, n, c, e, hn, fun h => ?_⟩
  obtain ⟨g, off, cur, e1, h1, h2, h3⟩ := hr h
  have hl := (Array.getElem?_eq_some_iff.1 h2).1
  exact ⟨g, off, cur, e1, h1, (k.block g hl (hG g hl h1)).trans h2, h3⟩
theorem StrS.mono {w : World} {P Q : Nat → Prop} {V : Value} {S : List (List UInt8)} (h : StrS w P V S) (hP : ∀ i, i < w.heap.size → P i → Q i) : StrS w Q V S := by
  obtain ⟨ao, n, c, e, hn, hr⟩ := h
  refine ⟨ao, n, c, e, hn, fun h => ?_⟩
  obtain ⟨g, off, cur, e1, h1, h2, h3⟩ := hr h
  exact ⟨g, off, cur, e1, hP g (Array.getElem?_eq_some_iff.1 h2).1 h1, h2, h3⟩

set_option maxHeartbeats 1600000 in
theorem sameStrings (Va Vb : Value) (S : List (List UInt8)) (P Q : Nat → Prop) (w : World) (ha : StrS w P Va S) (hb : StrS w Q Vb S) (hN : S.length ≤ 1099511627776) :
    Calls Try.prog 13 #[Va, Vb] w fun e w' => e = .returned (.bool true) ∧ ∃ q, w' = w.drewN q := by
  obtain ⟨aa, n, ca, rfl, hn, hra⟩ := ha
  obtain ⟨ab, n', cb, rfl, hn', hrb⟩ := hb
  obtain rfl : n' = n := by omega
  have HN : Hid (n' = S.length) := hn
  have HA : Hid (S ≠ [] → ∃ g off, aa = some ⟨g, off, none⟩ ∧ ∀ i, i < n' → w.cell? ⟨g, off + i, none⟩ = some (encStr (S.getD i []))) := fun h => by
    obtain ⟨g, off, cur, e, _, hg, hc⟩ := hra h
    exact ⟨g, off, e, fun i hi => by rw [cell_of_row w g _ cur 9 (0, 0) hg]; exact hc i hi⟩
  have HB : Hid (S ≠ [] → ∃ g off, ab = some ⟨g, off, none⟩ ∧ ∀ i, i < n' → w.cell? ⟨g, off + i, none⟩ = some (encStr (S.getD i []))) := fun h => by
    obtain ⟨g, off, cur, e, _, hg, hc⟩ := hrb h
    exact ⟨g, off, e, fun i hi => by rw [cell_of_row w g _ cur 9 (0, 0) hg]; exact hc i hi⟩
  have hn40 : n' ≤ 1099511627776 := by omega
  clear hn hn' hra hrb hN
  go_enter Try.func13, Try.ntmps13
  go_wp2_with fail
  go_loopw [5] (fun i wr => ∃ k q : Nat, i = .int .i64 k ∧ k ≤ n' ∧ wr = w.drewN q) (fun i _ => n' - (intOf i).toNat)
  case atStart => exact ⟨0, 0, rfl, Nat.zero_le _, rfl⟩
  case round =>
    obtain ⟨k, q, rfl, hk, hwr⟩ := hrel
    rw [hwr]
    clear hwr
    by_cases hlt : k < n'
    · have hSne : S ≠ [] := fun h => by have := HN.out; rw [h] at this; simp at this; omega
      obtain ⟨ga, oa, rfl, hca⟩ := HA.out hSne
      obtain ⟨gb, ob, rfl, hcb⟩ := HB.out hSne
      have c1 : w.cell? ⟨ga, oa + k, none⟩ = some (encStr (S.getD k [])) := hca k hlt
      have c2 : w.cell? ⟨gb, ob + k, none⟩ = some (encStr (S.getD k [])) := hcb k hlt
      obtain ⟨s, hs⟩ : ∃ s : ByteArray, encStr (S.getD k []) = .string s := ⟨_, rfl⟩
      rw [hs] at c1 c2
      have hlt' : (k : Int) < (n' : Int) := by omega
      have hk0 : (0 : Int) ≤ (k : Int) := by omega
      clear hca hcb HA HB hs hSne
      go_upto_region 6 with fail
      go_quiet (fail)
      go_wp2_with fail
      go_roundw
      case rel => exact ⟨k + 1, q + nq, by go_num, by omega, rfl⟩
      case measure => simp [intOf]; omega
    · go_wp2_with fail
      go_ret
      exact ⟨rfl, q, rfl⟩

set_option maxHeartbeats 1600000 in
theorem sameSpans (Va Vb : Value) (L : List (Int × Int)) (P Q : Nat → Prop) (w : World) (ha : SpanS w P Va L) (hb : SpanS w Q Vb L) (hN : L.length ≤ 1099511627776) :
    Calls Try.prog 24 #[Va, Vb] w fun e w' => e = .returned (.bool true) ∧ ∃ q, w' = w.drewN q := by
  obtain ⟨aa, n, ca, rfl, hn, _, hra⟩ := ha
  obtain ⟨ab, n', cb, rfl, hn', _, hrb⟩ := hb
  obtain rfl : n' = n := by omega
  have HN : Hid (n' = L.length) := hn
  have HA : Hid (L ≠ [] → ∃ g off, aa = some ⟨g, off, none⟩ ∧ Row w g off ca L) := fun h => by
    obtain ⟨g, off, e, hr, _⟩ := hra h
    exact ⟨g, off, e, hr⟩
  have HB : Hid (L ≠ [] → ∃ g off, ab = some ⟨g, off, none⟩ ∧ Row w g off cb L) := fun h => by
    obtain ⟨g, off, e, hr, _⟩ := hrb h
    exact ⟨g, off, e, hr⟩
  have hn40 : n' ≤ 1099511627776 := by omega
  clear hn hn' hra hrb hN
  go_enter Try.func24, Try.ntmps24
  go_wp2_with fail
  go_loopw [5] (fun i wr => ∃ k q : Nat, i = .int .i64 k ∧ k ≤ n' ∧ wr = w.drewN q) (fun i _ => n' - (intOf i).toNat)
  case atStart => exact ⟨0, 0, rfl, Nat.zero_le _, rfl⟩
  case round =>
    obtain ⟨k, q, rfl, hk, hwr⟩ := hrel
    rw [hwr]
    clear hwr
    by_cases hlt : k < n'
    · have hLne : L ≠ [] := fun h => by have := HN.out; rw [h] at this; simp at this; omega
      obtain ⟨ga, oa, rfl, hca⟩ := HA.out hLne
      obtain ⟨gb, ob, rfl, hcb⟩ := HB.out hLne
      obtain ⟨a0, a1⟩ := hca.cells k (by rw [← HN.out]; exact hlt)
      obtain ⟨b0, b1⟩ := hcb.cells k (by rw [← HN.out]; exact hlt)
      obtain ⟨x, hx⟩ : ∃ x, x = (L.getD k (0, 0)).1 := ⟨_, rfl⟩
      obtain ⟨y, hy⟩ : ∃ y, y = (L.getD k (0, 0)).2 := ⟨_, rfl⟩
      rw [← hx] at a0 b0
      rw [← hy] at a1 b1
      have hlt' : (k : Int) < (n' : Int) := by omega
      have hk0 : (0 : Int) ≤ (k : Int) := by omega
      clear hca hcb HA HB hx hy hLne
      go_upto_region 6 with fail
      go_quiet (fail)
      go_wp2_with fail
      go_roundw
      case rel => exact ⟨k + 1, q + nq, by go_num, by omega, rfl⟩
      case measure => simp [intOf]; omega
    · go_wp2_with fail
      go_ret
      exact ⟨rfl, q, rfl⟩
end Go.Proofs.Qxb6630298a
