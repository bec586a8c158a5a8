/-
  THE WALK of zzDistinctActors: the actors of a list of events, in order, each once.
-/
import Derived.Test.Qxb6630298aWithout
import Derived.Deep.AppendLies
import Derived.Sort.Walk0
namespace Go.Proofs.Qxb6630298a
open Go.RowKit Go.Maps

/-- S: the actors of L, in order, each once. -/
def DS (L : List Evt) (S : List (List UInt8)) : Prop := S.Pairwise (· ≤ ·) ∧ S.Nodup ∧ (∀ k, k ∈ S ↔ ∃ e ∈ L, key e.1 = k) ∧ S.length ≤ L.length
/-- A row of the call's own that holds S. -/
def DRow (w : World) (v : Value) (S : List (List UInt8)) (wx : World) : Prop := wx.ownsRow w.heap.size 9 1 v S.length (S.map encStr) ∧ Kept none' w wx

theorem DRow.shape {w wx : World} {v : Value} {S : List (List UInt8)} (h : DRow w v S wx) : ∃ ao c, v = .slice ao S.length c ∧ (0 < S.length → ∃ g, ao = some ⟨g, 0, none⟩ ∧ ∀ t, t < S.length → wx.cell? ⟨g, t, none⟩ = some (encStr (S.getD t []))) := by
  by_cases hp : 0 < S.length
  · obtain ⟨g, cap, rfl, _, _⟩ := h.1.form hp
    refine ⟨_, _, rfl, fun _ => ⟨g, rfl, fun t ht => ?_⟩⟩
    rw [h.1.cellAt t (by omega)]
    simp [List.getD, ht]
  · rcases h.1.2 with ⟨rfl, h0⟩ | ⟨g, cap, cur, rfl, _⟩
    · exact ⟨none, 0, by rw [h0], fun h => absurd h hp⟩
    · exact ⟨_, _, rfl, fun h => absurd h hp⟩
theorem DRow.strs {w wx : World} {v : Value} {S : List (List UInt8)} (h : DRow w v S wx) : StrS wx (fun g => w.heap.size ≤ g) v S := by
  rcases h.1.2 with ⟨rfl, h0⟩ | ⟨g, cap, cur, rfl, hb, hg, h1, h2, h3, h4⟩
  · exact ⟨_, _, _, rfl, h0.symm, fun h => absurd (List.eq_nil_of_length_eq_zero h0) h⟩
  · refine ⟨_, _, _, rfl, rfl, fun _ => ⟨g, 0, cur, rfl, hb, hg, fun i hi => ?_⟩⟩
    have h5 : (cur.toList.take S.length)[i]? = (S.map encStr)[i]? := by rw [← h4, Nat.mul_one]
    rw [List.getElem?_take_of_lt hi, Array.getElem?_toList] at h5
    rw [Nat.zero_add, h5]
    simp [List.getD, hi]

theorem less_of {s a : ByteArray} {x : List UInt8} (hs : key s = x) (h : x < key a) : Op.bytesLess s.toList a.toList = true := by
  rw [bytesLess_eq, ByteArray.toList_eq, ByteArray.toList_eq]
  exact decide_eq_true (by subst hs; exact h)
theorem not_less_of {s a : ByteArray} {x : List UInt8} (hs : key s = x) (h : ¬ x < key a) : Op.bytesLess s.toList a.toList = false := by
  rw [bytesLess_eq, ByteArray.toList_eq, ByteArray.toList_eq]
  exact decide_eq_false (by subst hs; exact h)

theorem enc_key (a : ByteArray) : encStr (key a) = .string a := by simp [encStr]
theorem eq_of {s a : ByteArray} {x : List UInt8} (hs : key s = x) (h : x = key a) : (s.toList == a.toList) = true := by
  rw [ByteArray.toList_eq, ByteArray.toList_eq]
  simp only [beq_iff_eq]
  exact hs.trans h
theorem not_eq_of {s a : ByteArray} {x : List UInt8} (hs : key s = x) (h : ¬ x = key a) : (s.toList == a.toList) = false := by
  rw [ByteArray.toList_eq, ByteArray.toList_eq]
  simp only [beq_eq_false_iff_ne]
  exact fun e => h (hs.symm.trans e)

theorem ev_snoc {L : List Evt} {ii : Nat} (hi : ii < L.length) : L.take (ii + 1) = L.take ii ++ [L.getD ii evt0] := by
  rw [List.take_add_one, List.getD, List.getElem?_eq_getElem hi]; rfl
theorem str_mem {S : List (List UInt8)} {j : Nat} (h : j < S.length) : S.getD j [] ∈ S := by simp [List.getD, h]

theorem ds_same {L : List Evt} {S : List (List UInt8)} {ii j : Nat} {a : ByteArray} (h : DS (L.take ii) S) (hi : ii < L.length) (ha : a = (L.getD ii evt0).1) (hj : j < S.length) (he : S.getD j [] = key a) : DS (L.take (ii + 1)) S := by
  obtain ⟨h1, h2, h3, h4⟩ := h
  refine ⟨h1, h2, fun k => ?_, ?_⟩
  · rw [h3, ev_snoc hi]
    constructor
    · rintro ⟨e, he, hk⟩
      exact ⟨e, List.mem_append.2 (.inl he), hk⟩
    · rintro ⟨e, he', hk⟩
      rcases List.mem_append.1 he' with h5 | h5
      · exact ⟨e, h5, hk⟩
      · rw [List.mem_singleton] at h5
        have : k ∈ S := by rw [← hk, h5, ← ha, ← he]; exact str_mem hj
        exact (h3 k).1 this
  · simp only [List.length_take] at h4 ⊢; omega

theorem ins_eq {S X : List (List UInt8)} {j : Nat} {x : List UInt8} (hjm : j ≤ S.length) (hX : X.length = S.length + 1) (hlo : ∀ t, t < j → X.getD t [] = S.getD t []) (hhi : ∀ t, j < t → t ≤ S.length → X.getD t [] = S.getD (t - 1) []) :
    X.set j x = S.take j ++ x :: S.drop j := by
  apply List.ext_getElem
  · simp; omega
  · intro t h1 h2
    simp only [List.length_set] at h1
    rw [List.getElem_set]
    by_cases e : j = t
    · subst e
      simp [List.getElem_append_right, Nat.min_eq_left hjm]
    · rw [if_neg e]
      rcases Nat.lt_or_gt_of_ne e with h | h
      · have := hhi t h (by omega)
        rw [List.getElem_append_right (by simp; omega)]
        simp only [List.length_take, Nat.min_eq_left hjm]
        obtain ⟨d, rfl⟩ : ∃ d, t = j + 1 + d := ⟨t - (j + 1), by omega⟩
        simp only [List.getD, List.getElem?_eq_getElem h1, Option.getD_some] at this
        rw [this]
        have e1 : j + 1 + d - j = d + 1 := by omega
        have e2 : j + 1 + d - 1 = j + d := by omega
        simp only [e1, e2, List.getElem_cons_succ, List.getElem_drop]
        rw [List.getElem?_eq_getElem (by omega)]
        rfl
      · have := hlo t h
        rw [List.getElem_append_left (by simp; omega)]
        simp only [List.getD, List.getElem?_eq_getElem h1, Option.getD_some] at this
        rw [this, List.getElem_take, List.getElem?_eq_getElem (by omega)]
        rfl

theorem ds_ins {L : List Evt} {S X : List (List UInt8)} {ii j : Nat} {a : ByteArray} (h : DS (L.take ii) S) (hi : ii < L.length) (ha : a = (L.getD ii evt0).1) (hjm : j ≤ S.length) (hbel : ∀ t, t < j → S.getD t [] < key a) (hge : j < S.length → ¬ S.getD j [] < key a) (hq : ¬ (j < S.length ∧ S.getD j [] = key a))
    (hX : X.length = S.length + 1) (hlo : ∀ t, t < j → X.getD t [] = S.getD t []) (hhi : ∀ t, j < t → t ≤ S.length → X.getD t [] = S.getD (t - 1) []) : DS (L.take (ii + 1)) (X.set j (key a)) := by
  obtain ⟨h1, h2, h3, h4⟩ := h
  rw [ins_eq hjm hX hlo hhi]
  have hS : S.take j ++ S.drop j = S := List.take_append_drop j S
  have h1' := h1
  have h2' := h2
  rw [← hS] at h1' h2'
  obtain ⟨p1, p2, p3⟩ := List.pairwise_append.1 h1'
  obtain ⟨n1, n2, n3⟩ := List.nodup_append.1 h2'
  have hlow : ∀ x ∈ S.take j, x < key a := fun x hx => by
    obtain ⟨t, ht, rfl⟩ := List.mem_iff_getElem.1 hx
    simp only [List.length_take] at ht
    have := hbel t (by omega)
    simpa [List.getD, List.getElem?_eq_getElem (show t < S.length by omega)] using this
  have hhigh : ∀ x ∈ S.drop j, key a ≤ x ∧ key a ≠ x := fun x hx => by
    obtain ⟨t, ht, rfl⟩ := List.mem_iff_getElem.1 hx
    simp only [List.length_drop] at ht
    have hj : j < S.length := by omega
    have g1 : key a ≤ S.getD j [] := List.not_lt.1 (hge hj)
    have g2 : S.getD j [] ≤ S[j + t] := by
      rcases Nat.eq_zero_or_pos t with h0 | h0
      · subst h0
        simp only [List.getD, List.getElem?_eq_getElem hj, Option.getD_some]
        exact List.le_refl _
      · have := List.pairwise_iff_getElem.1 h1 j (j + t) hj (by omega) (by omega)
        simpa only [List.getD, List.getElem?_eq_getElem hj, Option.getD_some] using this
    rw [List.getElem_drop]
    refine ⟨List.le_trans g1 g2, fun e => hq ⟨hj, List.le_antisymm (e ▸ g2) g1⟩⟩
  refine ⟨?_, ?_, fun k => ?_, ?_⟩
  · refine List.pairwise_append.2 ⟨p1, List.pairwise_cons.2 ⟨fun x hx => (hhigh x hx).1, p2⟩, fun x hx y hy => ?_⟩
    rcases List.mem_cons.1 hy with rfl | hy
    · exact List.le_of_lt (hlow x hx)
    · exact p3 x hx y hy
  · refine List.nodup_append.2 ⟨n1, List.nodup_cons.2 ⟨fun hx => (hhigh _ hx).2 rfl, n2⟩, fun x hx y hy => ?_⟩
    rcases List.mem_cons.1 hy with rfl | hy
    · exact fun e => List.lt_irrefl _ (e ▸ hlow x hx)
    · exact n3 x hx y hy
  · have hm : k ∈ S.take j ++ key a :: S.drop j ↔ k = key a ∨ k ∈ S := by
      conv => rhs; rhs; rw [← hS]
      simp only [List.mem_append, List.mem_cons]
      constructor
      · rintro (h | h | h)
        · exact .inr (.inl h)
        · exact .inl h
        · exact .inr (.inr h)
      · rintro (h | h | h)
        · exact .inr (.inl h)
        · exact .inl h
        · exact .inr (.inr h)
    rw [hm, h3, ev_snoc hi]
    constructor
    · rintro (h | ⟨e, he, hk⟩)
      · exact ⟨L.getD ii evt0, List.mem_append.2 (.inr (by simp)), by rw [← ha, h]⟩
      · exact ⟨e, List.mem_append.2 (.inl he), hk⟩
    · rintro ⟨e, he, hk⟩
      rcases List.mem_append.1 he with h5 | h5
      · exact .inr ⟨e, h5, hk⟩
      · rw [List.mem_singleton] at h5
        exact .inl (by rw [← hk, h5, ← ha])
  · simp only [List.length_append, List.length_cons, List.length_take, List.length_drop] at h4 ⊢
    omega

/-- The row while it is shifted. -/
def ShI (w : World) (v : Value) (S : List (List UInt8)) (kk : Nat) (wr : World) : Prop :=
  ∃ X : List (List UInt8), X.length = S.length + 1 ∧ wr.ownsRow w.heap.size 9 1 v (S.length + 1) (X.map encStr) ∧ Kept none' w wr ∧ (∀ t, t < kk → X.getD t [] = S.getD t []) ∧ ∀ t, kk < t → t ≤ S.length → X.getD t [] = S.getD (t - 1) []
theorem ShI.start {w wr : World} {v : Value} {S : List (List UInt8)} (h : wr.ownsRow w.heap.size 9 1 v (S.length + 1) (S.map encStr ++ [encStr []])) (hk : Kept none' w wr) : ShI w v S S.length wr :=
  ⟨S ++ [[]], by simp, by simpa using h, hk, fun t ht => by simp [List.getD, List.getElem?_append_left ht], fun t h1 h2 => by omega⟩
theorem ShI.cell {w wr : World} {g cap : Nat} {S : List (List UInt8)} {kk t : Nat} (h : ShI w (.slice (some ⟨g, 0, none⟩) (S.length + 1) cap) S kk wr) (ht : t < kk) (hkk : kk ≤ S.length) : wr.cell? ⟨g, t, none⟩ = some (encStr (S.getD t [])) := by
  obtain ⟨X, hX, hrow, _, hlo, _⟩ := h
  rw [hrow.cellAt t (by omega), List.getElem?_map, ← hlo t ht]
  simp [List.getD, List.getElem?_eq_getElem (show t < X.length by omega)]
theorem ShI.frozen {w wr : World} {g cap : Nat} {S : List (List UInt8)} {kk : Nat} (h : ShI w (.slice (some ⟨g, 0, none⟩) (S.length + 1) cap) S kk wr) (t : Nat) : wr.frozen? ⟨g, t, none⟩ = false := by
  obtain ⟨X, hX, hrow, _⟩ := h
  exact hrow.frozenAt t
theorem ShI.there {w wr : World} {g cap : Nat} {S : List (List UInt8)} {kk t : Nat} (h : ShI w (.slice (some ⟨g, 0, none⟩) (S.length + 1) cap) S kk wr) (ht : t ≤ S.length) : ∃ o, wr.cell? ⟨g, t, none⟩ = some o := by
  obtain ⟨X, hX, hrow, _⟩ := h
  rw [hrow.cellAt t (by omega), List.getElem?_map, List.getElem?_eq_getElem (show t < X.length by omega)]
  exact ⟨_, rfl⟩
theorem ShI.base {w wr : World} {g cap : Nat} {S : List (List UInt8)} {kk : Nat} (h : ShI w (.slice (some ⟨g, 0, none⟩) (S.length + 1) cap) S kk wr) : w.heap.size ≤ g := by
  obtain ⟨X, hX, hrow, _⟩ := h
  exact (hrow.lt g rfl).1
theorem ShI.step {w wr : World} {g cap : Nat} {S : List (List UInt8)} {k : Nat} (h : ShI w (.slice (some ⟨g, 0, none⟩) (S.length + 1) cap) S (k + 1) wr) (hk : k + 1 ≤ S.length) : ShI w (.slice (some ⟨g, 0, none⟩) (S.length + 1) cap) S k (wr.setCell ⟨g, k + 1, none⟩ (encStr (S.getD k []))) := by
  have hb := h.base
  obtain ⟨X, hX, hrow, hkp, hlo, hhi⟩ := h
  refine ⟨X.set (k + 1) (S.getD k []), by simpa using hX, by rw [List.map_set]; exact (hrow.stored _ _).1, hkp.setCell (fun h => absurd h (by simp; omega)) _, fun t ht => ?_, fun t h1 h2 => ?_⟩
  · rw [List.getD, List.getElem?_set_ne (by omega), ← List.getD]
    exact hlo t (by omega)
  · by_cases e : t = k + 1
    · subst e
      rw [List.getD, List.getElem?_set_self (by omega)]
      rfl
    · rw [List.getD, List.getElem?_set_ne (by omega), ← List.getD]
      exact hhi t (by omega) h2
theorem ShI.last {w wr : World} {g cap : Nat} {L : List Evt} {S : List (List UInt8)} {j ii : Nat} {a : ByteArray} (hs : ShI w (.slice (some ⟨g, 0, none⟩) (S.length + 1) cap) S j wr) (h : DS (L.take ii) S) (hi : ii < L.length) (ha : a = (L.getD ii evt0).1) (hjm : j ≤ S.length) (hbel : ∀ t, t < j → S.getD t [] < key a) (hge : j < S.length → ¬ S.getD j [] < key a) (hq : ¬ (j < S.length ∧ S.getD j [] = key a)) :
    ∃ Y, DRow w (.slice (some ⟨g, 0, none⟩) (S.length + 1) cap) Y (wr.setCell ⟨g, j, none⟩ (.string a)) ∧ DS (L.take (ii + 1)) Y := by
  have hb := hs.base
  obtain ⟨X, hX, hrow, hkp, hlo, hhi⟩ := hs
  refine ⟨X.set j (key a), ⟨?_, hkp.setCell (fun h => absurd h (by simp; omega)) _⟩, ds_ins h hi ha hjm hbel hge hq hX hlo hhi⟩
  rw [List.length_set, hX, List.map_set, enc_key]
  exact (hrow.stored _ _).1

/-- WHAT zzDistinctActors ANSWERS. -/
def DistinctPost (L : List Evt) (w : World) (e : Ending) (w' : World) : Prop := ∃ V S, e = .returned V ∧ Kept none' w w' ∧ StrS w' (fun g => w.heap.size ≤ g) V S ∧ DS L S

set_option maxRecDepth 100000 in
set_option maxHeartbeats 3200000 in
theorem distinct (V : Value) (L : List Evt) (w : World) (hV : EvS w V L) (hL : GoodE L) (hN : L.length ≤ 4096) :
    Calls Try.prog 8 #[V] w fun e w' => DistinctPost L w e w' := by
  obtain ⟨ao, n, c, rfl, hn, hr⟩ := hV
  have HN : Hid (n = L.length) := hn
  have HR := (show Hid _ from hr)
  have HG : Hid (GoodE L) := hL
  have hn12 : n ≤ 4096 := by omega
  obtain ⟨i0, hi, hz0, hz1, hz2⟩ := info_parts Try.info9
  clear hn hr hL hN
  go_enter Try.func8, Try.ntmps8
  go_wp2_with fail
  go_loopw [3, 4] (fun v i wr => ∃ (ii : Nat) (S : List (List UInt8)), i = .int .i64 ii ∧ ii ≤ n ∧ DRow w v S wr ∧ DS (L.take ii) S) (fun _ i _ => n - (intOf i).toNat)
  case atStart => exact ⟨0, [], rfl, Nat.zero_le _, ⟨World.ownsRow_nil _ _ _ _, Kept.refl _ _⟩, List.Pairwise.nil, List.nodup_nil, fun k => by simp, Nat.zero_le _⟩
  case round =>
    obtain ⟨ii, S, rfl, hin, hrow, hds⟩ := hrel
    have HRow := (show Hid (DRow w u3 S wr) from hrow)
    have HDS := (show Hid (DS (L.take ii) S) from hds)
    clear hrow hds
    by_cases hlt : ii < n
    · have hil : ii < L.length := by rw [← HN.out]; exact hlt
      have hLne : L ≠ [] := fun h => by rw [h] at hil; simp at hil
      obtain ⟨g, off, hao, hgw, hcs⟩ := HR.out hLne
      have c0 := HRow.out.2.cell (hcs ii hlt).1 (fun h => h)
      obtain ⟨hs, _⟩ := HG.out _ (show L.getD ii evt0 ∈ L by simp [List.getD, hil])
      obtain ⟨a, ha⟩ : ∃ a, a = (L.getD ii evt0).1 := ⟨_, rfl⟩
      rw [← ha] at c0 hs
      have HA := (show Hid (a = (L.getD ii evt0).1) from ha)
      obtain ⟨aS, cS, hv, hcell⟩ := HRow.out.shape
      have hSl : S.length ≤ 4096 := by have := HDS.out.2.2.2; simp at this; omega
      obtain ⟨m, hm⟩ : ∃ m, m = S.length := ⟨_, rfl⟩
      rw [← hm] at hv hcell hSl
      have HM := (show Hid (m = S.length) from hm)
      have HCE := (show Hid _ from hcell)
      subst hao hv
      have hlt' : (ii : Int) < (n : Int) := by omega
      have hi0 : (0 : Int) ≤ (ii : Int) := by omega
      clear hcs hLne hil ha hm hcell
      obtain ⟨w1, hw1⟩ : ∃ w1, w1 = wr := ⟨_, rfl⟩
      subst hw1
      go_upto_block 2 with fail
      go_cut [6] from 19 to 32 (fun p wx => wx = w1 ∧ ∃ j : Nat, p = .int .i64 j ∧ j ≤ m ∧ (∀ t, t < j → S.getD t [] < key a) ∧ (j < m → ¬ S.getD j [] < key a))
      case first =>
        go_wp2_with fail
        go_loopw [6] (fun p wr => wr = w1 ∧ ∃ j : Nat, p = .int .i64 j ∧ j ≤ m ∧ (∀ t, t < j → S.getD t [] < key a)) (fun p _ => m - (intOf p).toNat)
        case atStart => exact ⟨rfl, 0, rfl, Nat.zero_le _, fun t h => absurd h (Nat.not_lt_zero _)⟩
        case round =>
          obtain ⟨hwr, j, rfl, hjm, hbel⟩ := hrel
          rw [hwr]
          clear hwr
          have HBel := (show Hid (∀ t, t < j → S.getD t [] < key a) from hbel)
          clear hbel
          by_cases hjl : j < m
          · obtain ⟨gS, hgS, hcell⟩ := HCE.out (by omega)
            have c1 := hcell j hjl
            obtain ⟨s, hse⟩ : ∃ s : ByteArray, encStr (S.getD j []) = .string s := ⟨_, rfl⟩
            have hks : key s = S.getD j [] := by
              have : (Value.string ⟨(S.getD j []).toArray⟩) = .string s := hse
              injection this with this
              rw [← this]
            rw [hse] at c1
            subst hgS
            have hjl' : (j : Int) < (m : Int) := by omega
            have hj0 : (0 : Int) ≤ (j : Int) := by omega
            have HKS := (show Hid (key s = S.getD j []) from hks)
            clear hcell hse hks
            by_cases hle : S.getD j [] < key a
            · have hbl := less_of HKS.out hle
              go_wp2_with fail
              go_roundw
              case rel => exact ⟨trivial, j + 1, by go_num, by omega, fun t ht => by
                by_cases h : t = j
                · rw [h]; exact hle
                · exact HBel.out t (by omega)⟩
              case measure => simp [intOf]; omega
            · have hbl := not_less_of HKS.out hle
              go_wp2_with fail
              go_meet
              exact ⟨rfl, j, rfl, hjm, HBel.out, fun _ => hle⟩
          · go_wp2_with fail
            go_meet
            exact ⟨rfl, j, rfl, hjm, HBel.out, fun h => absurd h hjl⟩
      case rest =>
        obtain ⟨rfl, j, rfl, hjm, hbel, hge⟩ := hcut
        have HBel := (show Hid (∀ t, t < j → S.getD t [] < key a) from hbel)
        have HGe := (show Hid (j < m → ¬ S.getD j [] < key a) from hge)
        clear hbel hge
        obtain ⟨w1, hw1⟩ : ∃ w1, w1 = wc := ⟨_, rfl⟩
        subst hw1
        go_upto_region 9 with fail
        go_cut [44] from 33 to 43 (fun t wx => wx = w1 ∧ t = .bool (decide (j < m ∧ S.getD j [] = key a)))
        case first =>
          by_cases hjl : j < m
          · obtain ⟨gS, hgS, hcell⟩ := HCE.out (by omega)
            have c1 := hcell j hjl
            obtain ⟨s, hse⟩ : ∃ s : ByteArray, encStr (S.getD j []) = .string s := ⟨_, rfl⟩
            have hks : key s = S.getD j [] := by
              have : (Value.string ⟨(S.getD j []).toArray⟩) = .string s := hse
              injection this with this
              rw [← this]
            rw [hse] at c1
            subst hgS
            have hjl' : (j : Int) < (m : Int) := by omega
            have hj0 : (0 : Int) ≤ (j : Int) := by omega
            have HKS := (show Hid (key s = S.getD j []) from hks)
            clear hcell hse hks
            by_cases he : S.getD j [] = key a
            · have hb := eq_of HKS.out he
              go_wp2_with fail
              go_meet
              exact ⟨rfl, by rw [decide_eq_true ⟨hjl, he⟩]⟩
            · have hb := not_eq_of HKS.out he
              go_wp2_with fail
              go_meet
              exact ⟨rfl, by rw [decide_eq_false (fun h => he h.2)]⟩
          · go_wp2_with fail
            go_meet
            exact ⟨rfl, by rw [decide_eq_false (fun h => hjl h.1)]⟩
        case rest =>
          obtain ⟨hwx, rfl⟩ := hcut
          rw [hwx]
          clear hwx
          have hil : ii < L.length := by rw [← HN.out]; exact hlt
          by_cases hq : j < m ∧ S.getD j [] = key a
          · rw [decide_eq_true hq]
            have HQ := (show Hid (j < m ∧ S.getD j [] = key a) from hq)
            clear hq
            go_wp2_with fail
            go_roundw
            case rel => exact ⟨ii + 1, S, by go_num, by omega, HRow.out, ds_same HDS.out hil HA.out (by have := HQ.out.1; have := HM.out; omega) HQ.out.2⟩
            case measure => simp [intOf]; omega
          · rw [decide_eq_false hq]
            have HQ := (show Hid (¬ (j < m ∧ S.getD j [] = key a)) from hq)
            clear hq
            have hown : w1.ownsRow w.heap.size 9 1 (.slice aS m cS) m (S.map encStr) := by
              have := HRow.out.1
              rw [← HM.out] at this
              exact this
            have hk1 := HRow.out.2
            have hk1s := hk1.size
            have HD3 := (show Hid (∀ v' w', w'.ownsRow w.heap.size 9 1 v' (m + 1) (S.map encStr ++ [encStr []]) → (w1.alloc (.cells #[encStr []] 9)).grownBy w' (Value.slice aS m cS).ownBlock → ∃ g' c', v' = .slice (some ⟨g', 0, none⟩) (m + 1) c' ∧ ShI w (.slice (some ⟨g', 0, none⟩) (m + 1) c') S m w') from fun v' w' h1 h2 => by
              obtain ⟨g', c', rfl, _, _⟩ := h1.form (by omega)
              refine ⟨g', c', rfl, ?_⟩
              rw [HM.out] at h1 ⊢
              exact ShI.start h1 ((hk1.alloc _).grown h2 (fun k e h => by have := (hown.lt k e).1; omega)))
            go_wp2_with (first
              | (at_builtin; refine wpList_append_own _ rfl _ _ 30 rfl w.heap.size 9 i0 (.string ⟨#[]⟩) 1 16 Try.underlying30 hi hz0 hz1 hz2 rfl (by decide) _ _ _ rfl (hown.alloc _) ⟨w1.heap.size, 0, none⟩ 1 1 [encStr []] rfl rfl (cell_one_new _ _ _) (by simp [Value.oneCell', encStr]) (by unfold maxLen at *; omega) (by omega) (by simp; omega) ?_; intro v' w3 hown' hg3 hnil3; obtain ⟨g', c', rfl, hsh⟩ := HD3.out v' w3 hown' hg3; clear hown' hg3 hnil3; go_frame)
              | go_in)
            have HSh := (show Hid (ShI w (.slice (some ⟨g', 0, none⟩) (m + 1) c') S m w3) from hsh)
            clear hsh hown HD3 HCE HRow hk1
            go_loopw [7] (fun k wr => ∃ kk : Nat, k = .int .i64 kk ∧ j ≤ kk ∧ kk ≤ m ∧ ShI w (.slice (some ⟨g', 0, none⟩) (m + 1) c') S kk wr) (fun k _ => (intOf k).toNat)
            case atStart => exact ⟨m, by go_num, hjm, Nat.le_refl _, HSh.out⟩
            case round =>
              obtain ⟨kk, rfl, hjk, hkm, hsh⟩ := hrel
              clear HSh
              by_cases hlt2 : j < kk
              · obtain ⟨k1, rfl⟩ : ∃ k1, kk = k1 + 1 := ⟨kk - 1, by omega⟩
                have hml := HM.out
                rw [hml] at hsh
                have c1 := hsh.cell (t := k1) (by omega) (by omega)
                obtain ⟨o, c2⟩ := hsh.there (t := k1 + 1) (by omega)
                have f2 := hsh.frozen (k1 + 1)
                have hst := hsh.step (by omega)
                obtain ⟨s, hse⟩ : ∃ s : ByteArray, encStr (S.getD k1 []) = .string s := ⟨_, rfl⟩
                rw [hse] at c1 hst
                rw [← hml] at hst
                have HST := (show Hid _ from hst)
                have hlt3 : (j : Int) < ((k1 + 1 : Nat) : Int) := by omega
                have hk1' : (0 : Int) ≤ (k1 : Int) := by omega
                clear hst hsh hse hml
                go_wp2_with fail
                go_roundw
                case rel => exact ⟨k1, by go_num, by omega, by omega, HST.out⟩
                case measure => simp [intOf]
              · have hjk' : kk = j := by omega
                subst hjk'
                have hml := HM.out
                rw [hml] at hsh
                obtain ⟨o, c2⟩ := hsh.there (t := kk) (by omega)
                have f2 := hsh.frozen kk
                have hla := hsh.last HDS.out hil HA.out (by omega) HBel.out (fun h => HGe.out (by omega)) (fun h => HQ.out ⟨by omega, h.2⟩)
                rw [← hml] at hla
                have HLA := (show Hid _ from hla)
                have hk1' : (0 : Int) ≤ (kk : Int) := by omega
                clear hla hsh hml
                go_wp2_with fail
                go_roundw
                case rel =>
                  obtain ⟨Y, hY1, hY2⟩ := HLA.out
                  exact ⟨ii + 1, Y, by go_num, by omega, hY1, hY2⟩
                case measure => simp [intOf]; omega
    · have hii : ii = n := by omega
      go_wp2_with fail
      go_ret
      exact ⟨_, S, rfl, HRow.out.2, HRow.out.strs, by have := HDS.out; rwa [show ii = L.length from hii.trans HN.out, List.take_length] at this⟩
end Go.Proofs.Qxb6630298a
