/-
  THE WALK of FnWithoutEmptySelfAndTwice.
-/
import Derived.Test.Qxb6630298aHeld
namespace Go.Proofs.Qxb6630298a
open Go.RowKit Go.Maps

/-- The law's answer. -/
def LawPost (w : World) (e : Ending) (w' : World) : Prop := e = .returned (.bool true) ∧ Kept none' w w'

set_option maxRecDepth 100000 in
set_option maxHeartbeats 6400000 in
theorem law4 (aa ab : Option Addr) (na nb ca cb : Nat) (La Lb : List Evt) (w : World) (ha : EvS w (.slice aa na ca) La) (hb : EvS w (.slice ab nb cb) Lb) (hla : na = La.length) (hlb : nb = Lb.length) (hwa : WfE La) (hwb : WfE Lb) :
    Calls Try.prog 4 #[.slice aa na ca, .slice ab nb cb] w fun e w' => LawPost w e w' := by
  have HA := (show Hid (EvS w (.slice aa na ca) La) from ha)
  have HB := (show Hid (EvS w (.slice ab nb cb) Lb) from hb)
  have HLA := (show Hid (na = La.length) from hla)
  have HLB := (show Hid (nb = Lb.length) from hlb)
  have HWA := (show Hid (WfE La) from hwa)
  have HWB := (show Hid (WfE Lb) from hwb)
  have HBY := (show Hid _ from bytes15 aa ab na nb ca cb La Lb w ha hb)
  clear ha hb hla hlb hwa hwb
  go_enter Try.func4, Try.ntmps4
  go_upto_region 3 with (go_at_call 15; refine Calls.mono HBY.out ?_; rintro e w' ⟨b, rfl, hw⟩; rw [hw]; clear hw HBY; cases b)
  · go_ret
    exact ⟨rfl, Kept.refl _ _⟩
  by_cases hna : (na : Int) > 4096
  · have hd := decide_eq_true hna
    go_wp2_with fail
    go_ret
    exact ⟨rfl, Kept.refl _ _⟩
  have hda := decide_eq_false hna
  by_cases hnb : (nb : Int) > 4096
  · have hd := decide_eq_true hnb
    go_wp2_with fail
    go_ret
    exact ⟨rfl, Kept.refl _ _⟩
  have hdb := decide_eq_false hnb
  have hna' : na ≤ 4096 := by omega
  have hnb' : nb ≤ 4096 := by omega
  go_wp2_with fail
  go_loopw [5, 6] (fun z i wr => wr = w ∧ ∃ (zz : Int) (ii : Nat), z = .int .i64 zz ∧ i = .int .i64 ii ∧ ii ≤ na) (fun _ i _ => na - (intOf i).toNat)
  case atStart => exact ⟨rfl, 0, 0, rfl, rfl, Nat.zero_le _⟩
  case round =>
    obtain ⟨hwr, zz, ii, rfl, rfl, hii⟩ := hrel
    rw [hwr]
    clear hwr
    by_cases hlt : ii < na
    · obtain ⟨g, off, s, hao, c0, _, _, _⟩ := HA.out.at ii hlt
      subst hao
      have hlt' : (ii : Int) < (na : Int) := by omega
      have hi0 : (0 : Int) ≤ (ii : Int) := by omega
      go_wp2_with fail
      all_goals first
        | (go_ret; exact ⟨rfl, Kept.refl _ _⟩)
        | exact ⟨⟨trivial, _, ii + 1, rfl, by go_num, by omega⟩, by simp [intOf]; omega⟩
    clear hii
    go_wp2_with fail
    go_loopw [5, 7] (fun z i wr => wr = w ∧ ∃ (zz : Int) (ii : Nat), z = .int .i64 zz ∧ i = .int .i64 ii ∧ ii ≤ nb) (fun _ i _ => nb - (intOf i).toNat)
    case atStart => exact ⟨rfl, _, 0, rfl, rfl, Nat.zero_le _⟩
    case round =>
      clear hlt
      obtain ⟨hwr, yy, i2, rfl, rfl, hii⟩ := hrel
      rw [hwr]
      clear hwr
      by_cases hlt : i2 < nb
      · obtain ⟨g, off, s, hao, c0, _, _, _⟩ := HB.out.at i2 hlt
        subst hao
        have hlt' : (i2 : Int) < (nb : Int) := by omega
        have hi0 : (0 : Int) ≤ (i2 : Int) := by omega
        go_wp2_with fail
        all_goals first
          | (go_ret; exact ⟨rfl, Kept.refl _ _⟩)
          | exact ⟨⟨trivial, _, i2 + 1, rfl, by go_num, by omega⟩, by simp [intOf]; omega⟩
      clear hii
      go_wp2_with fail
      go_loopw [8] (fun i wr => ∃ (ii q : Nat), i = .int .i64 ii ∧ ii ≤ na ∧ wr = w.drewN q ∧ ∀ t, t < ii → (La.getD t evt0).2.1 ≤ (La.getD t evt0).2.2) (fun i _ => na - (intOf i).toNat)
      case atStart => exact ⟨0, 0, rfl, Nat.zero_le _, rfl, fun t h => absurd h (Nat.not_lt_zero _)⟩
      case round =>
        obtain ⟨jj, q, rfl, hjj, hwr, hlo⟩ := hrel
        have HLo := (show Hid (∀ t, t < jj → (La.getD t evt0).2.1 ≤ (La.getD t evt0).2.2) from hlo)
        clear hlo
        rw [hwr]
        clear hwr
        by_cases hlt3 : jj < na
        · obtain ⟨g, off, s, hao, c0, c1, c2, _⟩ := HA.out.at jj hlt3
          subst hao
          have hlt' : (jj : Int) < (na : Int) := by omega
          have hi0 : (0 : Int) ≤ (jj : Int) := by omega
          obtain ⟨x, hx⟩ : ∃ x, x = (La.getD jj evt0).2.1 := ⟨_, rfl⟩
          obtain ⟨y, hy⟩ : ∃ y, y = (La.getD jj evt0).2.2 := ⟨_, rfl⟩
          rw [← hx] at c1
          rw [← hy] at c2
          have HX := (show Hid (x = (La.getD jj evt0).2.1) from hx)
          have HY := (show Hid (y = (La.getD jj evt0).2.2) from hy)
          clear hx hy
          by_cases hxy : x > y
          · have hd := decide_eq_true hxy
            go_upto_region 21 with fail
            go_quiet (fail)
            go_wp2_with fail
            go_ret
            exact ⟨rfl, ((Kept.refl none' w).drewN q).drewN nq⟩
          · have hd := decide_eq_false hxy
            go_upto_region 21 with fail
            go_quiet (fail)
            go_wp2_with fail
            go_roundw
            case rel => exact ⟨jj + 1, q + nq, by go_num, by omega, rfl, fun t ht => by
              by_cases h : t = jj
              · rw [h, ← HX.out, ← HY.out]; omega
              · exact HLo.out t (by omega)⟩
            case measure => simp [intOf]; omega
        have HGA := (show Hid (GoodE La) from good_of HWA.out (fun t ht => HLo.out t (by have := HLA.out; omega)))
        go_wp2_with fail
        go_loopw [9] (fun i wr => ∃ (ii q : Nat), i = .int .i64 ii ∧ ii ≤ nb ∧ wr = w.drewN q ∧ ∀ t, t < ii → (Lb.getD t evt0).2.1 ≤ (Lb.getD t evt0).2.2) (fun i _ => nb - (intOf i).toNat)
        case atStart => exact ⟨0, q, rfl, Nat.zero_le _, rfl, fun t h => absurd h (Nat.not_lt_zero _)⟩
        case round =>
          clear hlt3
          obtain ⟨j4, q4, rfl, hj4, hwr, hlo⟩ := hrel
          have HLp := (show Hid (∀ t, t < j4 → (Lb.getD t evt0).2.1 ≤ (Lb.getD t evt0).2.2) from hlo)
          clear hlo
          rw [hwr]
          clear hwr
          by_cases hlt3 : j4 < nb
          · obtain ⟨g, off, s, hao, c0, c1, c2, _⟩ := HB.out.at j4 hlt3
            subst hao
            have hlt' : (j4 : Int) < (nb : Int) := by omega
            have hi0 : (0 : Int) ≤ (j4 : Int) := by omega
            obtain ⟨x, hx⟩ : ∃ x, x = (Lb.getD j4 evt0).2.1 := ⟨_, rfl⟩
            obtain ⟨y, hy⟩ : ∃ y, y = (Lb.getD j4 evt0).2.2 := ⟨_, rfl⟩
            rw [← hx] at c1
            rw [← hy] at c2
            have HX := (show Hid (x = (Lb.getD j4 evt0).2.1) from hx)
            have HY := (show Hid (y = (Lb.getD j4 evt0).2.2) from hy)
            clear hx hy
            by_cases hxy : x > y
            · have hd := decide_eq_true hxy
              go_upto_region 26 with fail
              go_quiet (fail)
              go_wp2_with fail
              go_ret
              exact ⟨rfl, ((Kept.refl none' w).drewN q4).drewN nq⟩
            · have hd := decide_eq_false hxy
              go_upto_region 26 with fail
              go_quiet (fail)
              go_wp2_with fail
              go_roundw
              case rel => exact ⟨j4 + 1, q4 + nq, by go_num, by omega, rfl, fun t ht => by
                by_cases h : t = j4
                · rw [h, ← HX.out, ← HY.out]; omega
                · exact HLp.out t (by omega)⟩
              case measure => simp [intOf]; omega
          have HGB := (show Hid (GoodE Lb) from good_of HWB.out (fun t ht => HLp.out t (by have := HLB.out; omega)))
          have hk0 : Kept none' w (w.drewN q4) := (Kept.refl none' w).drewN q4
          have HA0 := (show Hid (EvS (w.drewN q4) (.slice aa na ca) La) from HA.out.later hk0)
          have HB0 := (show Hid (EvS (w.drewN q4) (.slice ab nb cb) Lb) from HB.out.later hk0)
          obtain ⟨w0, hw0⟩ : ∃ w0, w0 = w.drewN q4 := ⟨_, rfl⟩
          rw [← hw0] at hk0 HA0 HB0 ⊢
          clear hw0 HA HB HWA HWB HLo HLp hj4 hjj
          have hla : La.length ≤ 4096 := by have := HLA.out; omega
          have hlb : Lb.length ≤ 4096 := by have := HLB.out; omega
          go_upto_region 29 with (go_at_call 6; refine Calls.mono (build' _ La w0 HA0.out HGA.out hla) ?_; rintro e w1 ⟨p1, K1, rfl, hk1, B1⟩)
          go_upto_region 30 with (go_at_call 6; refine Calls.mono (build' _ Lb w1 (HB0.out.later hk1) HGB.out hlb) ?_; rintro e w2 ⟨p2, K2, rfl, hk2, B2⟩)
          replace B1 := B1.later hk2
          replace hk1 := hk1.then hk2
          have hk3 : Kept none' w2 (w2.alloc (.cells #[.map none, .map none] 44)) := (Kept.refl none' w2).alloc _
          have B3 := held_new w2
          replace B1 := B1.later hk3
          replace B2 := B2.later hk3
          replace hk1 := hk1.then hk3
          have HW1 := (show Hid _ from without' p1 w2.heap.size K1 (fun _ => []) 4096 0 4096 0 _ B1.1 B3 (by decide) B1.2.2.1 (fun _ => Nat.zero_le _) (by decide) B1.2.2.2)
          go_upto_region 31 with (go_at_call 7; refine Calls.mono HW1.out ?_; rintro e w3 ⟨p3, K3, rfl, hk4, B4⟩)
          replace hk1 := hk1.then hk4
          replace B1 := B1.later hk4
          replace B2 := B2.later hk4
          clear hk2 hk3 B3 HW1 hk4
          have HW2 := (show Hid _ from without' p1 p1 K1 K1 4096 4096 4096 4096 w3 B1.1 B1.1 (by decide) B1.2.2.1 B1.2.2.1 (by decide) B1.2.2.2)
          go_upto_region 32 with (go_at_call 7; refine Calls.mono HW2.out ?_; rintro e w4 ⟨p4, K4, rfl, hk4, B5⟩)
          replace hk1 := hk1.then hk4
          replace B1 := B1.later hk4
          replace B2 := B2.later hk4
          replace B4 := B4.later hk4
          clear HW2 hk4
          have HW3 := (show Hid _ from without' p1 p2 K1 K2 4096 4096 4096 4096 w4 B1.1 B2.1 (by decide) B1.2.2.1 B2.2.2.1 (by decide) B1.2.2.2)
          go_upto_region 33 with (go_at_call 7; refine Calls.mono HW3.out ?_; rintro e w5 ⟨p5, K5, rfl, hk4, B6⟩)
          replace hk1 := hk1.then hk4
          replace B1 := B1.later hk4
          replace B2 := B2.later hk4
          replace B4 := B4.later hk4
          replace B5 := B5.later hk4
          clear HW3 hk4
          have HW4 := (show Hid _ from without' p5 p2 K5 K2 1073741824 4096 8192 4096 w5 B6.1 B2.1 (by decide) B6.2.2.1 B2.2.2.1 (by decide) B6.2.2.2)
          go_upto_region 36 with (go_at_call 7; refine Calls.mono HW4.out ?_; rintro e w6 ⟨p6, K6, rfl, hk4, B7⟩)
          replace hk1 := hk1.then hk4
          replace B1 := B1.later hk4
          replace B4 := B4.later hk4
          replace B5 := B5.later hk4
          replace B6 := B6.later hk4
          clear HW4 hk4 B2
          have HS1 := (show Hid _ from same' p1 p3 K1 K3 4096 1073741824 w6 B1.1 B4.1 (by decide) (by decide) (fun k => Nat.le_trans (B1.2.2.1 k) (by decide)) (fun k x => by rw [B4.2.1 k x]; simp [mem_nil]))
          go_upto_region 40 with (go_at_call 16; refine Calls.mono HS1.out ?_; rintro e w7 ⟨rfl, hk4⟩)
          replace hk1 := hk1.then hk4
          replace B5 := B5.later hk4
          replace B6 := B6.later hk4
          replace B7 := B7.later hk4
          clear HS1 hk4 B1 B4
          have HE := (show Hid (∀ k, K4 k = []) from fun k => nil_of_none (B5.1.canon k) (fun x h => by have := (B5.2.1 k x).1 h; exact this.2 this.1))
          have HA1 := (show Hid _ from actorsH p4 K4 1073741824 w7 B5.1 (by decide))
          go_upto_region 42 with (go_at_call 14; refine Calls.mono HA1.out ?_; rintro e w8 ⟨V, S, rfl, hk4, ⟨ao, n, c, rfl, hn, hr⟩, hs1, hs2, hs3, hs4, hs5⟩; obtain rfl : S = [] := List.eq_nil_iff_forall_not_mem.2 (fun k hk => (hs3 k).1 hk (HE.out k)); obtain rfl : n = 0 := hn; clear hr hs1 hs2 hs3 hs4 hs5)
          replace hk1 := hk1.then hk4
          replace B5 := B5.later hk4
          replace B6 := B6.later hk4
          replace B7 := B7.later hk4
          clear HA1 hk4
          have HD1 := (show Hid _ from distinct _ La w8 (HA0.out.later hk1) HGA.out hla)
          go_upto_region 43 with (go_at_call 8; refine Calls.mono HD1.out ?_; rintro e w9 ⟨V, S, rfl, hk4, ⟨aS, nS, cS, rfl, hnS, hrS⟩, hds⟩; have HNS := (show Hid (nS = S.length) from hnS); clear hnS)
          have HRS := (show Hid (S ≠ [] → ∃ g off, aS = some ⟨g, off, none⟩ ∧ ∀ i, i < nS → w9.cell? ⟨g, off + i, none⟩ = some (encStr (S.getD i []))) from fun h => by
            obtain ⟨g, off, cur, e, _, hg, hc⟩ := hrS h
            exact ⟨g, off, e, fun i hi => by rw [cell_of_row w9 g _ cur 9 (0, 0) hg]; exact hc i hi⟩)
          have HKL := (show Hid (∀ k ∈ S, k.length ≤ maxLen) from fun k hk => by
            obtain ⟨e, he, rfl⟩ := (hds.2.2.1 k).1 hk
            have := (HGA.out e he).1
            rw [Array.length_toList]
            exact this)
          have hnS12 : nS ≤ 4096 := by have := HNS.out; have := hds.2.2.2; omega
          replace hk1 := hk0.then (hk1.then hk4)
          replace B5 := B5.later hk4
          replace B6 := B6.later hk4
          replace B7 := B7.later hk4
          clear HD1 hk4 hrS hds HA0 HB0 hk0
          go_wp2_with fail
          go_loopw [17] (fun i wr => ∃ (kk : Nat), i = .int .i64 kk ∧ kk ≤ nS ∧ Kept none' w9 wr) (fun i _ => nS - (intOf i).toNat)
          case atStart => exact ⟨0, rfl, Nat.zero_le _, Kept.refl _ _⟩
          case round =>
            obtain ⟨kk, rfl, hkk, hkr⟩ := hrel
            by_cases hlt4 : kk < nS
            · have hil : kk < S.length := by rw [← HNS.out]; exact hlt4
              have hSne : S ≠ [] := fun h => by rw [h] at hil; simp at hil
              obtain ⟨g, off, hao, hcs⟩ := HRS.out hSne
              have c1 := hkr.cell (hcs kk hlt4) (fun h => h)
              obtain ⟨s, hse⟩ : ∃ s : ByteArray, encStr (S.getD kk []) = .string s := ⟨_, rfl⟩
              have hsl : s.size ≤ maxLen := by
                have hks : s.data.toList = S.getD kk [] := by
                  have : (Value.string ⟨(S.getD kk []).toArray⟩) = .string s := hse
                  injection this with this
                  rw [← this]
                have := HKL.out (S.getD kk []) (by simp [List.getD, hil])
                rw [← hks, Array.length_toList] at this
                exact this
              rw [hse] at c1
              subst hao
              have hlt' : (kk : Int) < (nS : Int) := by omega
              have hi0 : (0 : Int) ≤ (kk : Int) := by omega
              have HR1 := (show Hid _ from rangesH p4 s K4 1073741824 wr hsl (B5.1.later hkr) (by rw [HE.out]; exact Nat.zero_le _))
              clear hcs hSne hil hse
              go_wp2_with (go_at_call 9; refine Calls.mono HR1.out ?_; rintro e wx ⟨V2, rfl, hk5, ⟨a2, n2, c2, rfl, hn2, _⟩⟩; rw [HE.out] at hn2; obtain rfl : n2 = 0 := hn2)
              go_roundw
              case rel => exact ⟨kk + 1, by go_num, by omega, hkr.then hk5⟩
              case measure => simp [intOf]; omega
            have HS2 := (show Hid _ from same' p5 p6 K5 K6 1073741824 1073741824 wr (B6.1.later hkr) (B7.1.later hkr) (by decide) (by decide) (fun k => Nat.le_trans (B6.2.2.1 k) (by decide)) (fun k x => by
              rw [B7.2.1 k x, B6.2.1 k x]
              exact ⟨fun h => ⟨h, h.2⟩, fun h => h.1⟩))
            go_wp2_with (go_at_call 16; refine Calls.mono HS2.out ?_; rintro e wz ⟨rfl, hk5⟩)
            go_ret
            exact ⟨rfl, hk1.then (hkr.then hk5)⟩
end Go.Proofs.Qxb6630298a
