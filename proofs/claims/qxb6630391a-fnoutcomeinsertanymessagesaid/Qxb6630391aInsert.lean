/-
  THE WALK OF THE LAW 'FnOutcomeInsertAnyMessage': the bound's contract, the lists.
-/
import Derived.Test.Qxb6630391aJoin
import Derived.RegionTactic
import Derived.ChangeAlike
namespace Go.Proofs.Qxb6630391a
open Go.RowKit

/-- The elements of a slice of strings, as the walks are told of them. -/
structure SElems (w : World) (a : Option Addr) (len : Nat) (ss : List ByteArray) : Prop where
  hlen : ss.length = len
  small : ∀ s ∈ ss, s.size ≤ maxLen
  lie : 0 < len → ∃ b off, a = some ⟨b, off, none⟩ ∧ b < w.heap.size ∧ ∀ i, i < len → w.cell? ⟨b, off + i, none⟩ = some (.string (ss.getD i ByteArray.empty))
theorem SElems.later {w w' : World} {a : Option Addr} {len : Nat} {ss : List ByteArray} (h : SElems w a len ss) (hb : Below w.heap.size w w') : SElems w' a len ss :=
  ⟨h.hlen, h.small, fun h0 => by
    obtain ⟨b, off, h1, h2, h3⟩ := h.lie h0
    exact ⟨b, off, h1, Nat.lt_of_lt_of_le h2 hb.size, fun i hi => (hb.cell (p := ⟨b, off + i, none⟩) h2).trans (h3 i hi)⟩⟩
theorem SElems.at_small {w : World} {a : Option Addr} {len : Nat} {ss : List ByteArray} (h : SElems w a len ss) (k : Nat) (hk : k < len) : (ss.getD k ByteArray.empty).size ≤ maxLen :=
  h.small _ (by have := h.hlen; simp [List.getD, show k < ss.length by omega])

/-- The bytes of a list of strings. -/
def tot (ss : List ByteArray) : Nat := (ss.map (·.size)).sum
theorem tot_step (ss : List ByteArray) (k : Nat) (h : k < ss.length) : tot (ss.take (k + 1)) = tot (ss.take k) + (ss.getD k ByteArray.empty).size := by
  rw [List.take_succ_eq_append_getElem h]
  simp only [tot, List.map_append, List.sum_append, List.map_cons, List.map_nil, List.sum_cons, List.sum_nil, List.getD, List.getElem?_eq_getElem h, Option.getD_some, Nat.add_zero]
theorem tot_le (ss : List ByteArray) (k : Nat) : tot (ss.take k) ≤ tot ss := by
  have h : tot ss = tot (ss.take k) + tot (ss.drop k) := by rw [tot, tot, tot, ← List.sum_append, ← List.map_append, List.take_append_drop]
  omega
theorem tot_at (ss : List ByteArray) (k : Nat) (h : k < ss.length) : (ss.getD k ByteArray.empty).size ≤ tot ss := by
  have h1 := tot_step ss k h
  have h2 := tot_le ss (k + 1)
  omega

set_option maxHeartbeats 800000 in
theorem bytesI_true (d t g : ByteArray) (a b : Option Addr) (la ca lb cb : Nat) (p l : Int) (ss : List ByteArray) (w : World) (h : d.size + t.size + la + lb + tot ss + g.size ≤ 1048576) (hs : SElems w b lb ss) :
    Calls Try.prog 5 #[.string d, .string t, .slice a la ca, .slice b lb cb, .int .i64 p, .int .i64 l, .string g] w fun e w' => e = .returned (.bool true) ∧ w' = w := by
  have HS := (show Hid _ from hs)
  clear hs
  go_enter Try.func5, Try.ntmps5
  go_wp2
  go_loop [15, 16] (fun z i => ∃ (k n : Nat), k ≤ lb ∧ i = .int .i64 k ∧ z = .int .i64 n ∧ Hid (n = d.size + t.size + la + lb + tot (ss.take k))) (fun _ i => lb - (intOf i).toNat)
  case atStart => exact ⟨0, d.size + t.size + la + lb, Nat.zero_le _, rfl, by go_num, by show _ = _; simp [tot]⟩
  case round =>
    obtain ⟨k, n, hk, rfl, rfl, HN⟩ := hrel
    have hle := tot_le ss k
    have hn1 : n ≤ d.size + t.size + la + lb + tot ss := by have := HN.out; omega
    by_cases hlt : k < lb
    · obtain ⟨b', off, hb, hbw, hc⟩ := HS.out.lie (by omega)
      have c := hc k hlt
      have hks : k < ss.length := by have := HS.out.hlen; omega
      have hst := tot_step ss k hks
      have hle' := tot_le ss (k + 1)
      obtain ⟨s, hs⟩ : ∃ s, s = ss.getD k ByteArray.empty := ⟨_, rfl⟩
      rw [← hs] at c hst
      have hsm : n + s.size ≤ d.size + t.size + la + lb + tot ss := by have := HN.out; omega
      have HN' : Hid (n + s.size = d.size + t.size + la + lb + tot (ss.take (k + 1))) := by show _ = _; rw [hst]; have := HN.out; omega
      clear hs hc hst hle' hle HN hks
      subst hb
      go_wp2
      go_round
      case rel => exact ⟨k + 1, n + s.size, by omega, by go_num, by go_num, HN'⟩
      case measure => simp [intOf]; omega
    · clear HN hle
      go_wp2
      go_ret
      exact ⟨rfl, rfl⟩

set_option maxHeartbeats 800000 in
theorem bytesI_false (d t g : ByteArray) (a b : Option Addr) (la ca lb cb : Nat) (p l : Int) (ss : List ByteArray) (w : World) (hd : d.size ≤ maxLen) (ht : t.size ≤ maxLen) (hg : g.size ≤ maxLen) (ha : la ≤ maxLen) (hb : lb ≤ maxLen)
    (h : 1048576 < d.size + t.size + la + lb + tot ss + g.size) (hs : SElems w b lb ss) :
    Calls Try.prog 5 #[.string d, .string t, .slice a la ca, .slice b lb cb, .int .i64 p, .int .i64 l, .string g] w fun e w' => e = .returned (.bool false) ∧ w' = w := by
  unfold maxLen at hd ht ha hb hg
  have HS := (show Hid _ from hs)
  clear hs
  by_cases h0 : d.size + t.size + la + lb ≤ 1048576
  · go_enter Try.func5, Try.ntmps5
    go_wp2
    go_loop [15, 16] (fun z i => ∃ (k n : Nat), k ≤ lb ∧ i = .int .i64 k ∧ z = .int .i64 n ∧ n ≤ 1048576 ∧ Hid (n = d.size + t.size + la + lb + tot (ss.take k))) (fun _ i => lb - (intOf i).toNat)
    case atStart => exact ⟨0, d.size + t.size + la + lb, Nat.zero_le _, rfl, by go_num, h0, by show _ = _; simp [tot]⟩
    case round =>
      obtain ⟨k, n, hk, rfl, rfl, hn1, HN⟩ := hrel
      by_cases hlt : k < lb
      · obtain ⟨b', off, hb, hbw, hc⟩ := HS.out.lie (by omega)
        have c := hc k hlt
        have hks : k < ss.length := by have := HS.out.hlen; omega
        have hst := tot_step ss k hks
        have hsm := HS.out.at_small k hlt
        unfold maxLen at hsm
        obtain ⟨s, hs⟩ : ∃ s, s = ss.getD k ByteArray.empty := ⟨_, rfl⟩
        rw [← hs] at c hst hsm
        have HN' : Hid (n + s.size = d.size + t.size + la + lb + tot (ss.take (k + 1))) := by show _ = _; rw [hst]; have := HN.out; omega
        clear hs hc hst HN hks
        subst hb
        go_wp2
        · go_ret
          exact ⟨rfl, rfl⟩
        · go_ret
          exact ⟨rfl, rfl⟩
        · have hn2 : n + s.size ≤ 1048576 := by omega
          go_round
          case rel => exact ⟨k + 1, n + s.size, by omega, by go_num, by go_num, hn2, HN'⟩
          case measure => simp [intOf]; omega
      · have hkl : ss.length ≤ k := by have := HS.out.hlen; omega
        have hN := HN.out
        rw [List.take_of_length_le hkl] at hN
        have hbig : 1048576 < n + g.size := by omega
        clear HN hN hkl
        go_wp2
        all_goals
          go_ret
          exact ⟨rfl, rfl⟩
  · go_enter Try.func5, Try.ntmps5
    go_wp2
    all_goals
      go_ret
      exact ⟨rfl, rfl⟩

/-! ### The list behind k rounds: the first k messages, with the new one among them once its place is passed -/
def aft (L : List (Int × ByteArray)) (x : Int × ByteArray) (p k : Nat) : List (Int × ByteArray) := if p < k then L.take p ++ x :: (L.take k).drop p else L.take k
theorem take_snoc (L : List (Int × ByteArray)) (k : Nat) (h : k < L.length) : L.take (k + 1) = L.take k ++ [L[k]] := List.take_succ_eq_append_getElem h
theorem aft_lt {L : List (Int × ByteArray)} {x : Int × ByteArray} {p k : Nat} (h : k < L.length) (hk : k ≠ p) : aft L x p (k + 1) = aft L x p k ++ [L[k]] := by
  unfold aft
  by_cases hp : p < k
  · rw [if_pos (by omega), if_pos hp, take_snoc L k h, List.drop_append_of_le_length (by simp; omega)]; simp
  · rw [if_neg (by omega), if_neg hp, take_snoc L k h]
theorem aft_eq {L : List (Int × ByteArray)} {x : Int × ByteArray} {k : Nat} (h : k < L.length) : aft L x k (k + 1) = (L.take k ++ [x]) ++ [L[k]] := by
  unfold aft
  rw [if_pos (by omega), take_snoc L k h, List.drop_append_of_le_length (by simp; omega)]; simp
theorem aft_len {L : List (Int × ByteArray)} {x : Int × ByteArray} {p k : Nat} (h : k ≤ L.length) : (aft L x p k).length = k + if p < k then 1 else 0 := by
  unfold aft
  split <;> simp <;> omega
theorem aft_before {L : List (Int × ByteArray)} {x : Int × ByteArray} {p k : Nat} (h : k ≤ p) : aft L x p k = L.take k := by unfold aft; rw [if_neg (by omega)]
theorem oc_insert (a b : List Int) (l : Int) : oc (a ++ l :: b) = worse (oc (a ++ b)) (sev l) := by
  rw [oc_append, oc_append, show oc (l :: b) = worse (sev l) (oc b) from rfl]
  unfold worse
  repeat' split
  all_goals omega
theorem aft_oc {L : List (Int × ByteArray)} {x : Int × ByteArray} {p : Nat} (h : p < L.length) : oc ((aft L x p L.length).map (·.1)) = worse (oc (L.map (·.1))) (sev x.1) := by
  unfold aft
  rw [if_pos h, List.take_length, List.map_append, List.map_cons, oc_insert, ← List.map_append, List.take_append_drop]
theorem end_oc {L : List (Int × ByteArray)} {x : Int × ByteArray} : oc ((L ++ [x]).map (·.1)) = worse (oc (L.map (·.1))) (sev x.1) := by
  rw [List.map_append, oc_append]; show worse _ (oc [x.1]) = _; rw [oc_one]
/-- The messages out of levels and tags. -/
theorem zip_fst (ls : List Int) (ss : List ByteArray) (h : ss.length = ls.length) : (ls.zip ss).map (·.1) = ls := by
  rw [show ((fun x : Int × ByteArray => x.1)) = Prod.fst from rfl, List.map_fst_zip (by omega)]
theorem zip_at (ls : List Int) (ss : List ByteArray) (k : Nat) (h : k < (ls.zip ss).length) : (ls.zip ss)[k] = (ls.getD k 0, ss.getD k ByteArray.empty) := by
  have h' := h
  rw [List.length_zip] at h'
  rw [List.getElem_zip]; simp [List.getD, show k < ls.length by omega, show k < ss.length by omega]
end Go.Proofs.Qxb6630391a
