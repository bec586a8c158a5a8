/-
  THE WALK of zzSameClock, at two clocks with the same ranges.
-/
import Derived.Test.Qxb6630298aWithout
import Derived.Deep.RegionHeld3
namespace Go.Proofs.Qxb6630298a
open Go.RowKit Go.Maps

theorem SpanS.mono {w : World} {P Q : Nat → Prop} {V : Value} {L : List (Int × Int)} (h : SpanS w P V L) (hP : ∀ i, P i → Q i) : SpanS w Q V L := by
  obtain ⟨ao, n, c, e, hn, hc, hr⟩ := h
  refine ⟨ao, n, c, e, hn, hc, fun h => ?_⟩
  obtain ⟨g, off, e1, h1, h2⟩ := hr h
  exact ⟨g, off, e1, h1, hP g h2⟩

set_option maxRecDepth 100000 in
set_option maxHeartbeats 3200000 in
theorem sameClock (pa pb : Nat) (Fa Fb : Nat → Prop) (K : List UInt8 → List (Int × Int)) (na nb : Nat) (w : World) (ha : Clock w pa Fa K na) (hb : Clock w pb Fb K nb) (hna : na ≤ 1073741824) (hnb : nb ≤ 1073741824) (hl : ∀ k, (K k).length ≤ 1073741824) :
    Calls Try.prog 16 #[.pointer (some ⟨pa, 0, none⟩), .pointer (some ⟨pb, 0, none⟩)] w fun e w' => e = .returned (.bool true) ∧ Kept none' w w' := by
  have HA := (show Hid (Clock w pa Fa K na) from ha)
  have HB := (show Hid (Clock w pb Fb K nb) from hb)
  have HL := (show Hid (∀ k, (K k).length ≤ 1073741824) from hl)
  have HCA := (show Hid (Calls Try.prog 14 #[.pointer (some ⟨pa, 0, none⟩)] w fun e w' => ActorsPost K na w e w') from actors' pa Fa K na w ha hna)
  have HCB := (show Hid (∀ W, Kept none' w W → Calls Try.prog 14 #[.pointer (some ⟨pb, 0, none⟩)] W fun e w' => ActorsPost K nb W e w') from fun W k => actors' pb Fb K nb W (hb.later k (fun _ _ h => h)) hnb)
  clear ha hb hl
  go_enter Try.func16, Try.ntmps16
  go_wp2_with (first
    | (go_at_call_of 14 (Value.pointer (some (⟨pa, 0, none⟩ : Addr))); refine HCA.out.mono ?_; rintro e w1 ⟨V, S, rfl, hk1, hS1, hs1, hn1, hm1, hl1, hkl1⟩
       have HS1 := (show Hid (StrS w1 (fun g => w.heap.size ≤ g) V S) from hS1)
       have HP1 := (show Hid (S.Pairwise (· ≤ ·) ∧ S.Nodup ∧ (∀ k, k ∈ S ↔ K k ≠ [])) from ⟨hs1, hn1, hm1⟩)
       have HKL := (show Hid (∀ k ∈ S, k.length ≤ maxLen) from hkl1)
       obtain ⟨ao, n, c, rfl, hn, hr⟩ := hS1
       have HN := (show Hid (n = S.length) from hn)
       have HR := (show Hid _ from hr)
       clear hn hr hs1 hn1 hm1 hkl1)
    | (go_at_call_of 14 (Value.pointer (some (⟨pb, 0, none⟩ : Addr))); refine (HCB.out _ hk1).mono ?_; rintro e w2 ⟨V2, S2, rfl, hk2, hS2, hs2, hn2, hm2, hl2, _⟩
       have hSS : S2 = S := sorted_ext hs2 hn2 HP1.out.1 HP1.out.2.1 (fun k => (hm2 k).trans (HP1.out.2.2 k).symm)
       subst hSS
       have HC3 := (show Hid _ from sameStrings _ V2 S2 _ _ w2 (HS1.out.later hk2 (fun _ _ _ h => h)) hS2 (by omega))
       have hn40 : n ≤ 1099511627776 := by have := HN.out; omega
       clear hs2 hn2 hm2 hl2 hS2)
    | (go_at_call 13; refine Calls.mono HC3.out ?_; rintro e w3 ⟨rfl, q, rfl⟩))
  have hkB : Kept none' w (w2.drewN q) := (hk1.trans hk2 (fun _ _ h => h)).drewN q
  have hkC : Kept none' w1 (w2.drewN q) := hk2.drewN q
  obtain ⟨wB, hwB⟩ : ∃ wB, wB = w2.drewN q := ⟨_, rfl⟩
  rw [← hwB] at hkB hkC ⊢
  clear hwB hk2 HC3 HCA HCB HP1
  go_loopw [6] (fun i wr => ∃ ii : Nat, i = .int .i64 ii ∧ ii ≤ n ∧ Kept none' wB wr) (fun i _ => n - (intOf i).toNat)
  case atStart => exact ⟨0, rfl, Nat.zero_le _, Kept.refl _ _⟩
  case round =>
    obtain ⟨ii, rfl, hin, hkr⟩ := hrel
    have hkw : Kept none' w wr := hkB.trans hkr (fun _ _ h => h)
    by_cases hlt : ii < n
    · have hil : ii < S2.length := by rw [← HN.out]; exact hlt
      have hSne : S2 ≠ [] := fun h => by rw [h] at hil; simp at hil
      obtain ⟨g, off, cur, hao, _, hrow, hcs⟩ := HR.out hSne
      obtain ⟨s, hs⟩ : ∃ s : ByteArray, encStr (S2.getD ii []) = .string s := ⟨_, rfl⟩
      have hsl : s.size ≤ maxLen := by
        have hks : s.data.toList = S2.getD ii [] := by
          have : (Value.string ⟨(S2.getD ii []).toArray⟩) = .string s := hs
          injection this with this
          rw [← this]
        have := HKL.out (S2.getD ii []) (by simp [List.getD, hil])
        rw [← hks, Array.length_toList] at this
        exact this
      have c1 : w1.cell? ⟨g, off + ii, none⟩ = some (.string s) := by
        rw [cell_of_row w1 g _ cur 9 (0, 0) hrow, ← hs]
        exact hcs ii hlt
      have c2 : wr.cell? ⟨g, off + ii, none⟩ = some (.string s) := (hkC.trans hkr (fun _ _ h => h)).cell c1 (fun h => h)
      have HKP := (show Hid (∀ W, Kept none' wr W → W.cell? ⟨g, off + ii, none⟩ = some (.string s) ∧ Kept none' wr W) from fun W k => ⟨k.cell c2 (fun h => h), k⟩)
      have HRA := (show Hid (∀ W, Kept none' wr W → Calls Try.prog 9 #[.pointer (some ⟨pa, 0, none⟩), .string s] W fun e w' => ∃ V, e = .returned V ∧ Kept none' wr w' ∧ Kept none' W w' ∧ SpanS w' (fun _ => True) V (K (key s))) from fun W k =>
        (zzRanges pa s Fa K na W hsl (HA.out.later (hkw.trans k (fun _ _ h => h)) (fun _ _ h => h)) (by have := HL.out (key s); omega)).mono (fun e w' ⟨V, h1, h2, h3⟩ => ⟨V, h1, k.trans h2 (fun _ _ h => h), h2, h3.mono (fun _ _ => trivial)⟩))
      have HRB := (show Hid (∀ W, Kept none' wr W → Calls Try.prog 9 #[.pointer (some ⟨pb, 0, none⟩), .string s] W fun e w' => ∃ V, e = .returned V ∧ Kept none' wr w' ∧ Kept none' W w' ∧ SpanS w' (fun _ => True) V (K (key s))) from fun W k =>
        (zzRanges pb s Fb K nb W hsl (HB.out.later (hkw.trans k (fun _ _ h => h)) (fun _ _ h => h)) (by have := HL.out (key s); omega)).mono (fun e w' ⟨V, h1, h2, h3⟩ => ⟨V, h1, k.trans h2 (fun _ _ h => h), h2, h3.mono (fun _ _ => trivial)⟩))
      have hKl : (K (key s)).length ≤ 1099511627776 := by have := HL.out (key s); omega
      obtain ⟨L, hL⟩ : ∃ L, L = K (key s) := ⟨_, rfl⟩
      rw [← hL] at hKl HRA HRB
      subst hao
      have hlt' : (ii : Int) < (n : Int) := by omega
      have hi0 : (0 : Int) ≤ (ii : Int) := by omega
      clear hcs hrow hSne hil hs hL c1 HA HB HL
      go_upto_region 7 with fail
      go_region_held3 (fun W => W.cell? ⟨g, off + ii, none⟩ = some (.string s) ∧ Kept none' wr W) (exact HKP.out _ (by first | assumption | exact (Kept.refl _ _).drew | exact Kept.drewN (by assumption) _))
        (first
          | (go_at_call_of 9 (Value.pointer (some (⟨pa, 0, none⟩ : Addr))); refine (HRA.out _ (by first | assumption | exact (Kept.refl _ _).drew)).mono ?_; rintro e wa ⟨VA, rfl, hAr, hAW, hAS⟩)
          | (go_at_call_of 9 (Value.pointer (some (⟨pb, 0, none⟩ : Addr))); refine (HRB.out _ (by first | assumption | exact (Kept.refl _ _).drew)).mono ?_; rintro e wb ⟨VB, rfl, hBr, hBW, hBS⟩)
          | (go_at_call 24; refine Calls.mono (sameSpans VA VB L (fun _ => True) (fun _ => True) _ (by first | exact hAS | exact hAS.later hBW (fun _ _ _ h => h)) (by first | exact hBS | exact hBS.later hAW (fun _ _ _ h => h)) hKl) ?_; rintro e w4 ⟨rfl, q4, rfl⟩))
      all_goals
        go_wp2_with fail
        go_roundw
        case rel => exact ⟨ii + 1, by go_num, by omega, hkr.trans (Kept.drewN (F := none') (a := wr) (by assumption) _) (fun _ _ h => h)⟩
        case measure => simp [intOf]; omega
    · have hii : ii = n := by omega
      go_wp2_with fail
      go_ret
      exact ⟨rfl, hkw⟩
end Go.Proofs.Qxb6630298a
