/-
  THE WALKS: the callees' contracts.
-/
import Derived.Test.Qxb6630391aRows
import Derived.Test.Qxb6630391aParts
import Derived.WalkKit
namespace Go.Proofs.Qxb6630391a
open Go.RowKit

theorem Try.info28 : (Try.prog.info? 28).map (fun i => (i.zero, i.size, i.bytes)) = some (some (.agg #[.int .i64 0, .string ByteArray.empty, .map none]), 3, 32) := by kernel_rfl

theorem sev_any (l : Int) (w : World) : Calls Try.prog 8 #[.int .i64 l] w fun e w' => e = .returned (.int .i64 (sev l)) ∧ w' = w := by
  unfold sev
  by_cases h4 : 4 ≤ l
  · rw [if_pos h4]
    go_enter Try.func8, Try.ntmps8
    go_wp2
    go_ret
    exact ⟨rfl, rfl⟩
  · rw [if_neg h4]
    by_cases h3 : l = 3
    · subst h3
      go_enter Try.func8, Try.ntmps8
      go_wp2
      go_ret
      exact ⟨rfl, rfl⟩
    · rw [if_neg h3]
      have h3' : (l == 3) = false := by simp [h3]
      go_enter Try.func8, Try.ntmps8
      go_wp2
      go_ret
      exact ⟨rfl, rfl⟩

theorem worse_any (a b : Int) (w : World) : Calls Try.prog 7 #[.int .i64 a, .int .i64 b] w fun e w' => e = .returned (.int .i64 (worse a b)) ∧ w' = w := by
  unfold worse
  by_cases h : b < a
  · rw [if_pos h]
    go_enter Try.func7, Try.ntmps7
    go_wp2
    go_ret
    exact ⟨rfl, rfl⟩
  · rw [if_neg h]
    go_enter Try.func7, Try.ntmps7
    go_wp2
    go_ret
    exact ⟨rfl, rfl⟩

/-- The three cells of message k. -/
theorem row_cells {base g n cap : Nat} {ms : List (Int × ByteArray)} {w wr : World} (hn : ms.length = n) (ho : w.ownsRow base 28 3 (.slice (some ⟨g, 0, none⟩) n cap) n (mcells ms))
    (hb : Below w.heap.size w wr) (k : Nat) (hk : k < n) : ∃ s, wr.cell? ⟨g, k * 3, none⟩ = some (.int .i64 ((ms.map (·.1)).getD k 0)) ∧ wr.cell? ⟨g, k * 3 + 1, none⟩ = some (.string s) ∧ wr.cell? ⟨g, k * 3 + 2, none⟩ = some (.map none) := by
  have hg : g < w.heap.size := (ho.lt g rfl).2
  have c := fun j (hj : j < n * 3) => (hb.cell (p := ⟨g, j, none⟩) hg).trans (ho.cellAt j hj)
  have hk' : k < ms.length := by omega
  obtain ⟨m1, m2, m3⟩ := mcells_get ms k hk'
  refine ⟨ms[k].2, ?_, ?_, ?_⟩
  · rw [c _ (by omega), m1]; simp [List.getD, hk']
  · rw [c _ (by omega), m2]
  · rw [c _ (by omega), m3]

set_option maxHeartbeats 400000 in
theorem outcome_any (d t : ByteArray) (base g n cap : Nat) (ms : List (Int × ByteArray)) (w : World) (hn : ms.length = n) (hm : n ≤ 140737488355328)
    (ho : w.ownsRow base 28 3 (.slice (some ⟨g, 0, none⟩) n cap) n (mcells ms)) :
    Calls Try.prog 6 #[.agg #[.string d, .string t, .slice (some ⟨g, 0, none⟩) n cap]] w fun e w' => e = .returned (.int .i64 (oc (ms.map (·.1)))) ∧ Below w.heap.size w w' := by
  have hrow := fun wr hb k hk => row_cells (wr := wr) hn ho hb k hk
  obtain ⟨ls, hls⟩ : ∃ ls, ls = ms.map (·.1) := ⟨_, rfl⟩
  have hl : ls.length = n := by rw [hls]; simpa using hn
  rw [← hls] at hrow ⊢
  clear ho hls hn ms
  have Hrow := (show Hid _ from hrow)
  have Hl : Hid (ls.length = n) := hl
  clear hrow hl
  go_enter Try.func6, Try.ntmps6
  go_wp2
  go_loopw [3, 9] (fun o i wr => ∃ k : Nat, k ≤ n ∧ i = .int .i64 k ∧ o = .int .i64 (oc (ls.take k)) ∧ oc (ls.take k) ≤ 1 ∧ Below w.heap.size w wr) (fun _ i _ => n - (intOf i).toNat)
  case atStart => exact ⟨0, Nat.zero_le _, rfl, rfl, by simp [oc], (Below.refl _ _).alloc (Nat.le_refl _) _⟩
  case round =>
    obtain ⟨k, hk, rfl, rfl, h1, hb⟩ := hrel
    by_cases hlt : k < n
    · obtain ⟨s, c0, c1, c2⟩ := Hrow.out wr hb k hlt
      have HS : Hid (oc (ls.take (k + 1)) = worse (oc (ls.take k)) (sev (ls.getD k 0))) := oc_step ls k (by have := Hl.out; omega)
      have HF : Hid (4 ≤ ls.getD k 0 → oc ls = 2) := oc_fail ls k (by have := Hl.out; omega)
      obtain ⟨l, hl⟩ : ∃ l, l = ls.getD k 0 := ⟨_, rfl⟩
      have ht := oc_bd (ls.take k)
      have hb' : Below w.heap.size w (wr.alloc (.cells #[.int .i64 l, .string s, .map none] 28)) := hb.alloc hb.size _
      rw [← hl] at c0 HS HF
      clear hl Hrow
      by_cases h4 : 4 ≤ l
      · go_wp2
        go_ret
        exact ⟨ret_int (HF.out h4).symm, hb'⟩
      · by_cases h3 : l = 3
        · subst h3
          go_wp2
          go_roundw
          case rel => exact ⟨k + 1, by omega, by go_num, int_eq (by rw [HS.out, worse_warn h1]), by rw [HS.out, worse_warn h1]; decide, hb'⟩
          case measure => simp [intOf]; omega
        · have h3' : (l == 3) = false := by simp [h3]
          go_wp2
          go_roundw
          case rel => exact ⟨k + 1, by omega, by go_num, int_eq (by rw [HS.out, worse_pass ht.1 h4 h3]), by rw [HS.out, worse_pass ht.1 h4 h3]; exact h1, hb'⟩
          case measure => simp [intOf]; omega
    · go_wp2
      go_ret
      exact ⟨ret_int (by rw [List.take_of_length_le (by have := Hl.out; omega)]), hb⟩

/-- WHAT THE WALK IS TOLD OF A SLICE OF INTEGERS THAT CAME IN. -/
def IsRow (k : IntKind) (w : World) (a : Option Addr) (len cap : Nat) (zs : List Int) : Prop :=
  (a = none ∧ len = 0 ∧ cap = 0 ∧ zs = []) ∨
  ∃ x, a = some x ∧ len ≤ cap ∧ cap ≤ maxLen ∧ zs.length = cap ∧ (∀ i, i < zs.length → w.cell? (x.add i) = some (.int k (zs.getD i 0))) ∧ ∀ n ∈ zs, (Lit.int k n).wf = true

/-- The elements' cells, whatever the address. -/
theorem isRow_cells {k : IntKind} {w : World} {a : Option Addr} {len cap : Nat} {zs : List Int} (h : IsRow k w a len cap zs) :
    ∃ b off, (0 < len → a = some ⟨b, off, none⟩) ∧ (0 < len → b < w.heap.size) ∧ len ≤ zs.length ∧ ∀ i, i < len → w.cell? ⟨b, off + i, none⟩ = some (.int k ((zs.take len).getD i 0)) := by
  rcases h with ⟨rfl, rfl, rfl, rfl⟩ | ⟨x, rfl, hl, hm, hz, hc, hw⟩
  · exact ⟨0, 0, by simp, by simp, by simp, by simp⟩
  · refine ⟨x.block, x.off, ?_, ?_, by omega, ?_⟩
    · intro h0
      obtain ⟨b, off, spot⟩ := x
      have hspot : spot = none := by simpa [Addr.add] using World.cell?_spot (hc 0 (by omega))
      subst hspot; rfl
    · intro h0
      exact World.block_lt_of_cell? w _ (hc 0 (by omega))
    · intro i hi
      have h := hc i (by omega)
      obtain ⟨b, off, spot⟩ := x
      have hspot : spot = none := by simpa [Addr.add] using World.cell?_spot (hc 0 (by omega))
      subst hspot
      rw [Addr.add_lit] at h
      rw [h]
      simp [List.getD, hi]

theorem worst_nil (a : Option Addr) (cap : Nat) (w : World) : Calls Try.prog 11 #[.int .i64 0, .slice a 0 cap] w fun e w' => e = .returned (.bool true) ∧ w' = w := by
  go_enter Try.func11, Try.ntmps11
  go_wp2
  go_loop [5, 6] (fun r i => r = .bool true ∧ i = .int .i64 0) (fun _ _ => 0)
  case atStart => exact ⟨rfl, rfl⟩
  case round =>
    obtain ⟨rfl, rfl⟩ := hrel
    go_wp2
    go_ret
    exact ⟨rfl, rfl⟩

set_option maxHeartbeats 400000 in
theorem worst_some (b off len cap : Nat) (ls : List Int) (w : World) (hm : len ≤ 140737488355328) (h0 : 0 < len) (hl : ls.length = len)
    (hc : ∀ i, i < len → w.cell? ⟨b, off + i, none⟩ = some (.int .i64 (ls.getD i 0))) :
    Calls Try.prog 11 #[.int .i64 (oc ls), .slice (some ⟨b, off, none⟩) len cap] w fun e w' => e = .returned (.bool true) ∧ w' = w := by
  have e0 : ((len : Int) == 0) = false := by simp; omega
  obtain ⟨o, ho⟩ : ∃ o, o = oc ls := ⟨_, rfl⟩
  rw [← ho]
  have HO : Hid (o = oc ls) := ho
  have HL : Hid (ls.length = len) := hl
  have HC : Hid _ := hc
  clear ho hl hc
  go_enter Try.func11, Try.ntmps11
  go_wp2
  go_loop [5, 6] (fun r i => ∃ k : Nat, k ≤ len ∧ i = .int .i64 k ∧ r = .bool (rch ls o k)) (fun _ i => len - (intOf i).toNat)
  case atStart => exact ⟨0, Nat.zero_le _, rfl, rfl⟩
  case round =>
    obtain ⟨k, hk, rfl, rfl⟩ := hrel
    by_cases hlt : k < len
    · have c := HC.out k hlt
      have HS : Hid _ := rch_step ls o k (by have := HL.out; omega)
      have hle : sev (ls.getD k 0) ≤ o := by rw [HO.out]; exact sev_le_at ls k (by have := HL.out; omega)
      obtain ⟨l, hl⟩ : ∃ l, l = ls.getD k 0 := ⟨_, rfl⟩
      rw [← hl] at c HS hle
      clear hl HC
      obtain ⟨s, hs⟩ : ∃ s, s = sev l := ⟨_, rfl⟩
      have hsev : ∀ w, Calls Try.prog 8 #[.int .i64 l] w fun e w' => e = .returned (.int .i64 s) ∧ w' = w := by rw [hs]; exact sev_any l
      have HV := (show Hid _ from hsev)
      rw [← hs] at HS hle
      clear hs hsev
      by_cases he : s = o
      · subst he
        go_wp2_with (go_at_call 8; refine (HV.out _).mono ?_; rintro e w' ⟨rfl, rfl⟩)
        go_round
        case rel => exact ⟨k + 1, by omega, by go_num, by rw [HS.out]; simp⟩
        case measure => simp [intOf]; omega
      · have he' : (s == o) = false := by simp [he]
        go_wp2_with (go_at_call 8; refine (HV.out _).mono ?_; rintro e w' ⟨rfl, rfl⟩)
        go_round
        case rel => exact ⟨k + 1, by omega, by go_num, by rw [HS.out, he']; simp⟩
        case measure => simp [intOf]; omega
    · go_wp2
      go_ret
      exact ⟨by rw [show k = ls.length from by have := HL.out; omega, HO.out, rch_all ls (by intro h; have := HL.out; rw [h] at this; simp at this; omega)]; rfl, rfl⟩

set_option maxHeartbeats 800000 in
theorem messages_some (b off len cap x : Nat) (ls : List Int) (w : World) (hm : len ≤ 65536) (hx : x ≤ 65536) (h0 : 0 < len) (hl : ls.length = len) (hbw : b < w.heap.size)
    (hc : ∀ i, i < len → w.cell? ⟨b, off + i, none⟩ = some (.int .i64 (ls.getD i 0))) :
    Calls Try.prog 10 #[.slice (some ⟨b, off, none⟩) len cap, .int .i64 x] w fun e w' => e = .returned (.slice (some ⟨w.heap.size, 0, none⟩) len (len + x)) ∧
      w'.ownsRow w.heap.size 28 3 (.slice (some ⟨w.heap.size, 0, none⟩) len (len + x)) len (mcells (bare ls)) ∧ Below w.heap.size w w' := by
  obtain ⟨i0, hi, hz0, hz1, hz2⟩ := info_parts Try.info28
  have HC : Hid _ := hc
  have HL : Hid _ := hl
  clear hc hl
  go_enter Try.func10, Try.ntmps10
  go_wp2_with (at_make; refine wpList_make_own _ rfl _ _ 29 rfl w.heap.size 28 i0 _ 3 Try.underlying29 hi hz0 hz1 _ _ _ (len + x) rfl rfl ?c1 ?c2 ?c3 ?c4 ?_)
  case c1 => simp
  case c2 => rw [hz2]; omega
  case c3 => unfold maxLen; omega
  case c4 => exact Nat.le_refl _
  intro w1 ho1 hg1
  have hb1 : Below w.heap.size w w1 := (Below.refl _ _).grown hg1 (Nat.le_refl _) (by simp)
  clear hg1
  go_wp2
  go_loopw [5, 6] (fun v i wr => ∃ k : Nat, k ≤ len ∧ i = .int .i64 k ∧ v = .slice (some ⟨w.heap.size, 0, none⟩) k (len + x) ∧ wr.ownsRow w.heap.size 28 3 (.slice (some ⟨w.heap.size, 0, none⟩) k (len + x)) k (mcells (bare (ls.take k))) ∧ Below w.heap.size w wr) (fun _ i _ => len - (intOf i).toNat)
  case atStart => exact ⟨0, Nat.zero_le _, rfl, rfl, ho1, hb1⟩
  case round =>
    clear ho1 hb1
    obtain ⟨k, hk, rfl, rfl, ho, hb⟩ := hrel
    by_cases hlt : k < len
    · have c := (hb.cell (p := ⟨b, off + k, none⟩) hbw).trans (HC.out k hlt)
      have HS : Hid _ := bare_step ls k (by have := HL.out; omega)
      obtain ⟨l, hl⟩ : ∃ l, l = ls.getD k 0 := ⟨_, rfl⟩
      rw [← hl] at c HS
      clear hl HC
      go_wp2_with (at_builtin; refine wpList_append_fits _ rfl _ _ 29 rfl w.heap.size 28 i0 3 Try.underlying29 hi hz1 w.heap.size k (len + x) _ rfl (ho.alloc _) ⟨wr.heap.size, 0, none⟩ 1 1 [.int .i64 l, .string ⟨#[]⟩, .map none] rfl rfl (news_cells _ _ _ _) (news_one _ _) (by omega) ?_)
      intro w2 ho2 hg2
      have hb2 : Below w.heap.size w w2 := (hb.alloc hb.size _).grown hg2 (by have := hb.size; simp; omega) (by simp)
      rw [← HS.out] at ho2
      clear hg2 ho hb
      go_wp2
      go_roundw
      case rel => exact ⟨k + 1, by omega, by go_num, rfl, ho2, hb2⟩
      case measure => simp [intOf]; omega
    · go_wp2
      go_ret
      have hkl : k = len := by omega
      subst hkl
      rw [List.take_of_length_le (by have := HL.out; omega)] at ho
      exact ⟨rfl, ho, hb⟩

set_option maxHeartbeats 800000 in
theorem messages_nil (a : Option Addr) (cap x : Nat) (w : World) (hx : x ≤ 65536) :
    Calls Try.prog 10 #[.slice a 0 cap, .int .i64 x] w fun e w' => e = .returned (.slice (some ⟨w.heap.size, 0, none⟩) 0 x) ∧
      w'.ownsRow w.heap.size 28 3 (.slice (some ⟨w.heap.size, 0, none⟩) 0 x) 0 [] ∧ Below w.heap.size w w' := by
  obtain ⟨i0, hi, hz0, hz1, hz2⟩ := info_parts Try.info28
  go_enter Try.func10, Try.ntmps10
  go_wp2_with (at_make; refine wpList_make_own _ rfl _ _ 29 rfl w.heap.size 28 i0 _ 3 Try.underlying29 hi hz0 hz1 _ _ _ x rfl rfl ?c1 ?c2 ?c3 ?c4 ?_)
  case c1 => simp
  case c2 => rw [hz2]; omega
  case c3 => unfold maxLen; omega
  case c4 => exact Nat.le_refl _
  intro w1 ho1 hg1
  have hb1 : Below w.heap.size w w1 := (Below.refl _ _).grown hg1 (Nat.le_refl _) (by simp)
  clear hg1
  go_wp2
  go_loopw [5, 6] (fun v i wr => i = .int .i64 0 ∧ v = .slice (some ⟨w.heap.size, 0, none⟩) 0 x ∧ wr.ownsRow w.heap.size 28 3 (.slice (some ⟨w.heap.size, 0, none⟩) 0 x) 0 [] ∧ Below w.heap.size w wr) (fun _ _ _ => 0)
  case atStart => exact ⟨rfl, rfl, ho1, hb1⟩
  case round =>
    clear ho1 hb1
    obtain ⟨rfl, rfl, ho, hb⟩ := hrel
    go_wp2
    go_ret
    exact ⟨rfl, ho, hb⟩

/-- The elements of a slice of ints, as the callees are told of them: the levels, where they lie. -/
structure Elems (w : World) (a : Option Addr) (len : Nat) (ls : List Int) : Prop where
  hlen : ls.length = len
  lie : 0 < len → ∃ b off, a = some ⟨b, off, none⟩ ∧ b < w.heap.size ∧ ∀ i, i < len → w.cell? ⟨b, off + i, none⟩ = some (.int .i64 (ls.getD i 0))
theorem IsRow.elems {w : World} {a : Option Addr} {len cap : Nat} {zs : List Int} (h : IsRow .i64 w a len cap zs) : Elems w a len (zs.take len) := by
  obtain ⟨b, off, h1, h2, h3, h4⟩ := isRow_cells h
  exact ⟨by simp; omega, fun h0 => ⟨b, off, h1 h0, h2 h0, h4⟩⟩
theorem Elems.later {w w' : World} {a : Option Addr} {len : Nat} {ls : List Int} (h : Elems w a len ls) (hb : Below w.heap.size w w') : Elems w' a len ls :=
  ⟨h.hlen, fun h0 => by
    obtain ⟨b, off, h1, h2, h3⟩ := h.lie h0
    exact ⟨b, off, h1, Nat.lt_of_lt_of_le h2 hb.size, fun i hi => (hb.cell (p := ⟨b, off + i, none⟩) h2).trans (h3 i hi)⟩⟩

theorem messages_any (a : Option Addr) (len cap x : Nat) (ls : List Int) (w : World) (hm : len ≤ 65536) (hx : x ≤ 65536) (he : Elems w a len ls) :
    Calls Try.prog 10 #[.slice a len cap, .int .i64 x] w fun e w' => e = .returned (.slice (some ⟨w.heap.size, 0, none⟩) len (len + x)) ∧
      w'.ownsRow w.heap.size 28 3 (.slice (some ⟨w.heap.size, 0, none⟩) len (len + x)) len (mcells (bare ls)) ∧ Below w.heap.size w w' := by
  by_cases h0 : 0 < len
  · obtain ⟨b, off, rfl, hb, hc⟩ := he.lie h0
    exact messages_some b off len cap x ls w hm hx h0 he.hlen hb hc
  · obtain rfl : len = 0 := by omega
    have hl : ls = [] := List.eq_nil_of_length_eq_zero he.hlen
    subst hl
    simp only [Nat.zero_add]
    exact messages_nil a cap x w hx

theorem worst_any (a : Option Addr) (len cap : Nat) (ls : List Int) (w : World) (hm : len ≤ 65536) (he : Elems w a len ls) :
    Calls Try.prog 11 #[.int .i64 (oc ls), .slice a len cap] w fun e w' => e = .returned (.bool true) ∧ w' = w := by
  by_cases h0 : 0 < len
  · obtain ⟨b, off, rfl, hb, hc⟩ := he.lie h0
    exact worst_some b off len cap ls w (by omega) h0 he.hlen hc
  · obtain rfl : len = 0 := by omega
    have hl : ls = [] := List.eq_nil_of_length_eq_zero he.hlen
    subst hl
    exact worst_nil a cap w

theorem bytesJ_true (d t : ByteArray) (a b : Option Addr) (la ca lb cb : Nat) (w : World) (h : d.size + t.size + la + lb ≤ 1048576) :
    Calls Try.prog 9 #[.string d, .string t, .slice a la ca, .slice b lb cb] w fun e w' => e = .returned (.bool true) ∧ w' = w := by
  go_enter Try.func9, Try.ntmps9
  go_wp2
  go_ret
  exact ⟨rfl, rfl⟩
theorem bytesJ_false (d t : ByteArray) (a b : Option Addr) (la ca lb cb : Nat) (w : World) (hd : d.size ≤ maxLen) (ht : t.size ≤ maxLen) (ha : la ≤ maxLen) (hb : lb ≤ maxLen) (h : 1048576 < d.size + t.size + la + lb) :
    Calls Try.prog 9 #[.string d, .string t, .slice a la ca, .slice b lb cb] w fun e w' => e = .returned (.bool false) ∧ w' = w := by
  unfold maxLen at hd ht ha hb
  go_enter Try.func9, Try.ntmps9
  go_wp2
  all_goals
    go_ret
    exact ⟨rfl, rfl⟩
end Go.Proofs.Qxb6630391a
