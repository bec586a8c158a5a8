/-
  THE WALK of FnWithoutIsSetDifference.
-/
import Derived.Test.Qxb6630298aLaw4
import Derived.Test.Qxb6630298aProbe
namespace Go.Proofs.Qxb6630298a
open Go.RowKit Go.Maps

/-- The actors of S for which something is left. -/
def left (Ku : Rng) (S : List (List UInt8)) : List (List UInt8) := S.filter (fun k => !(Ku k).isEmpty)
theorem left_snoc (Ku : Rng) {S : List (List UInt8)} {kk : Nat} (hk : kk < S.length) : left Ku (S.take (kk + 1)) = if Ku (S.getD kk []) = [] then left Ku (S.take kk) else left Ku (S.take kk) ++ [S.getD kk []] := by
  unfold left
  rw [take_snoc hk, List.filter_append]
  by_cases h : Ku (S.getD kk []) = []
  · rw [if_pos h, List.filter_cons_of_neg (by simpa using h)]; simp
  · rw [if_neg h, List.filter_cons_of_pos (by simpa using h)]; simp
theorem left_len (Ku : Rng) (S : List (List UInt8)) (kk : Nat) : (left Ku (S.take kk)).length ≤ S.length := by
  have h1 := List.length_filter_le (fun k => !(Ku k).isEmpty) (S.take kk)
  have h2 := List.length_take_le kk S
  unfold left
  simp only [List.length_take] at *
  omega
theorem left_all {Ku K1 K2 : Rng} {La : List Evt} {S A : List (List UInt8)} (hc : ∀ k, canon 1 (Ku k)) (hm : ∀ k x, mem x (Ku k) ↔ mem x (K1 k) ∧ ¬ mem x (K2 k)) (h1 : ∀ k x, mem x (K1 k) ↔ cov La k x) (hS : DS La S) (a1 : A.Pairwise (· ≤ ·)) (a2 : A.Nodup) (a3 : ∀ k, k ∈ A ↔ Ku k ≠ []) : left Ku S = A := by
  refine sorted_ext (hS.1.filter _) (hS.2.1.sublist List.filter_sublist) a1 a2 (fun k => ?_)
  unfold left
  rw [List.mem_filter, a3]
  constructor
  · rintro ⟨_, h⟩
    simpa using h
  · intro h
    refine ⟨?_, by simpa using h⟩
    obtain ⟨x, hx⟩ := mem_of_ne (hc k) h
    obtain ⟨e, he, hk, _⟩ := (h1 k x).1 ((hm k x).1 hx).1
    exact (hS.2.2.1 k).2 ⟨e, he, hk⟩
theorem agree {Ku K1 K2 : Rng} {La Lb : List Evt} (hm : ∀ k x, mem x (Ku k) ↔ mem x (K1 k) ∧ ¬ mem x (K2 k)) (h1 : ∀ k x, mem x (K1 k) ↔ cov La k x) (h2 : ∀ k x, mem x (K2 k) ↔ cov Lb k x) (k : List UInt8) (x : Int) : memB (Ku k) x = dB La Lb k x := by
  have h : memB (Ku k) x = true ↔ dB La Lb k x = true := by
    rw [memB_iff, hm, h1, h2]
    unfold dB
    rw [Bool.and_eq_true, inB_iff, Bool.not_eq_true', ← Bool.not_eq_true, inB_iff]
  cases h3 : memB (Ku k) x <;> cases h4 : dB La Lb k x
  · rfl
  · exact absurd (h.2 h4) (by rw [h3]; exact Bool.false_ne_true)
  · exact absurd (h.1 h3) (by rw [h4]; exact Bool.false_ne_true)
  · rfl
theorem wf_of_good {L : List Evt} (h : GoodE L) : WfE L := fun e he => by
  obtain ⟨h1, h2, h3, h4⟩ := h e he
  exact ⟨h1, h2, by omega, by omega, h4⟩
theorem lo1_bd {x : Int} (h0 : 0 ≤ x) (h1 : x ≤ 18446744073709551615) : 0 ≤ lo1 x ∧ lo1 x ≤ 18446744073709551615 := by
  unfold lo1; split <;> omega
theorem quiet_at {P : Program} {f : FuncId} {args : Array Value} {w : World} {q n : Nat} {v : Value} (h : Calls P f args (w.drewN (q + n)) fun e w' => e = .returned v ∧ w' = w.drewN (q + n)) : Calls P f args (w.drewN (q + n)) fun e w'' => e = .returned v ∧ ∃ m, w'' = w.drewN (q + m) :=
  h.mono fun _ _ ⟨he, hm⟩ => ⟨he, n, hm⟩
theorem grown_of {w w' : World} (k : Kept none' w w') : w.grownBy w' none := ⟨k.os, k.tape, k.output, k.size, fun i hi _ => k.block i hi (fun h => h)⟩
theorem DRow.later {w wx wy : World} {v : Value} {S : List (List UInt8)} (h : DRow w v S wx) (k : Kept none' wx wy) : DRow w v S wy := ⟨h.1.kept (grown_of k) (own_ne h.1), h.2.then k⟩

set_option maxRecDepth 100000 in
set_option maxHeartbeats 1600000 in
theorem law3 (aa ab : Option Addr) (na nb ca cb : Nat) (La Lb : List Evt) (w : World) (ha : EvS w (.slice aa na ca) La) (hb : EvS w (.slice ab nb cb) Lb) (hla : na = La.length) (hlb : nb = Lb.length) (hwa : WfE La) (hwb : WfE Lb) :
    Calls Try.prog 3 #[.slice aa na ca, .slice ab nb cb] w fun e w' => LawPost w e w' := by
  have HA := (show Hid (EvS w (.slice aa na ca) La) from ha)
  have HB := (show Hid (EvS w (.slice ab nb cb) Lb) from hb)
  have HLA := (show Hid (na = La.length) from hla)
  have HLB := (show Hid (nb = Lb.length) from hlb)
  have HWA := (show Hid (WfE La) from hwa)
  have HWB := (show Hid (WfE Lb) from hwb)
  have HBY := (show Hid _ from bytes5 aa ab na nb ca cb La Lb w ha hb)
  clear ha hb hla hlb hwa hwb
  go_enter Try.func3, Try.ntmps3
  go_upto_region 3 with (go_at_call 5; refine Calls.mono HBY.out ?_; rintro e w' ⟨b, rfl, hw⟩; rw [hw]; clear hw HBY; cases b)
  · go_ret
    exact ⟨rfl, Kept.refl _ _⟩
  by_cases hna : (na : Int) > 4096
  · have hd := decide_eq_true hna
    go_wp2_with fail
    go_ret
    exact ⟨rfl, Kept.refl _ _⟩
  have hda := decide_eq_false hna
  by_cases hnb : (nb : Int) > 4096
  · have hd := decide_eq_true hnb
    go_wp2_with fail
    go_ret
    exact ⟨rfl, Kept.refl _ _⟩
  have hdb := decide_eq_false hnb
  have hna' : na ≤ 4096 := by omega
  have hnb' : nb ≤ 4096 := by omega
  go_wp2_with fail
  go_loopw [5, 6] (fun z i wr => wr = w ∧ ∃ (zz : Int) (ii : Nat), z = .int .i64 zz ∧ i = .int .i64 ii ∧ ii ≤ na) (fun _ i _ => na - (intOf i).toNat)
  case atStart => exact ⟨rfl, 0, 0, rfl, rfl, Nat.zero_le _⟩
  case round =>
    obtain ⟨hwr, zz, ii, rfl, rfl, hii⟩ := hrel
    rw [hwr]
    clear hwr
    by_cases hlt : ii < na
    · obtain ⟨g, off, s, hao, c0, _, _, _⟩ := HA.out.at ii hlt
      subst hao
      have hlt' : (ii : Int) < (na : Int) := by omega
      have hi0 : (0 : Int) ≤ (ii : Int) := by omega
      go_wp2_with fail
      all_goals first
        | (go_ret; exact ⟨rfl, Kept.refl _ _⟩)
        | exact ⟨⟨trivial, _, ii + 1, rfl, by go_num, by omega⟩, by simp [intOf]; omega⟩
    clear hii
    go_wp2_with fail
    go_loopw [5, 7] (fun z i wr => wr = w ∧ ∃ (zz : Int) (ii : Nat), z = .int .i64 zz ∧ i = .int .i64 ii ∧ ii ≤ nb) (fun _ i _ => nb - (intOf i).toNat)
    case atStart => exact ⟨rfl, _, 0, rfl, rfl, Nat.zero_le _⟩
    case round =>
      clear hlt
      obtain ⟨hwr, yy, i2, rfl, rfl, hii⟩ := hrel
      rw [hwr]
      clear hwr
      by_cases hlt : i2 < nb
      · obtain ⟨g, off, s, hao, c0, _, _, _⟩ := HB.out.at i2 hlt
        subst hao
        have hlt' : (i2 : Int) < (nb : Int) := by omega
        have hi0 : (0 : Int) ≤ (i2 : Int) := by omega
        go_wp2_with fail
        all_goals first
          | (go_ret; exact ⟨rfl, Kept.refl _ _⟩)
          | exact ⟨⟨trivial, _, i2 + 1, rfl, by go_num, by omega⟩, by simp [intOf]; omega⟩
      clear hii
      go_wp2_with fail
      go_loopw [8] (fun i wr => ∃ (ii q : Nat), i = .int .i64 ii ∧ ii ≤ na ∧ wr = w.drewN q ∧ ∀ t, t < ii → (La.getD t evt0).2.1 ≤ (La.getD t evt0).2.2) (fun i _ => na - (intOf i).toNat)
      case atStart => exact ⟨0, 0, rfl, Nat.zero_le _, rfl, fun t h => absurd h (Nat.not_lt_zero _)⟩
      case round =>
        obtain ⟨jj, q, rfl, hjj, hwr, hlo⟩ := hrel
        have HLo := (show Hid (∀ t, t < jj → (La.getD t evt0).2.1 ≤ (La.getD t evt0).2.2) from hlo)
        clear hlo
        rw [hwr]
        clear hwr
        by_cases hlt3 : jj < na
        · obtain ⟨g, off, s, hao, c0, c1, c2, _⟩ := HA.out.at jj hlt3
          subst hao
          have hlt' : (jj : Int) < (na : Int) := by omega
          have hi0 : (0 : Int) ≤ (jj : Int) := by omega
          obtain ⟨x, hx⟩ : ∃ x, x = (La.getD jj evt0).2.1 := ⟨_, rfl⟩
          obtain ⟨y, hy⟩ : ∃ y, y = (La.getD jj evt0).2.2 := ⟨_, rfl⟩
          rw [← hx] at c1
          rw [← hy] at c2
          have HX := (show Hid (x = (La.getD jj evt0).2.1) from hx)
          have HY := (show Hid (y = (La.getD jj evt0).2.2) from hy)
          clear hx hy
          by_cases hxy : x > y
          · have hd := decide_eq_true hxy
            go_upto_region 21 with fail
            go_quiet (fail)
            go_wp2_with fail
            go_ret
            exact ⟨rfl, ((Kept.refl none' w).drewN q).drewN nq⟩
          · have hd := decide_eq_false hxy
            go_upto_region 21 with fail
            go_quiet (fail)
            go_wp2_with fail
            go_roundw
            case rel => exact ⟨jj + 1, q + nq, by go_num, by omega, rfl, fun t ht => by
              by_cases h : t = jj
              · rw [h, ← HX.out, ← HY.out]; omega
              · exact HLo.out t (by omega)⟩
            case measure => simp [intOf]; omega
        have HGA := (show Hid (GoodE La) from good_of HWA.out (fun t ht => HLo.out t (by have := HLA.out; omega)))
        go_wp2_with fail
        go_loopw [9] (fun i wr => ∃ (ii q : Nat), i = .int .i64 ii ∧ ii ≤ nb ∧ wr = w.drewN q ∧ ∀ t, t < ii → (Lb.getD t evt0).2.1 ≤ (Lb.getD t evt0).2.2) (fun i _ => nb - (intOf i).toNat)
        case atStart => exact ⟨0, q, rfl, Nat.zero_le _, rfl, fun t h => absurd h (Nat.not_lt_zero _)⟩
        case round =>
          clear hlt3
          obtain ⟨j4, q4, rfl, hj4, hwr, hlo⟩ := hrel
          have HLp := (show Hid (∀ t, t < j4 → (Lb.getD t evt0).2.1 ≤ (Lb.getD t evt0).2.2) from hlo)
          clear hlo
          rw [hwr]
          clear hwr
          by_cases hlt3 : j4 < nb
          · obtain ⟨g, off, s, hao, c0, c1, c2, _⟩ := HB.out.at j4 hlt3
            subst hao
            have hlt' : (j4 : Int) < (nb : Int) := by omega
            have hi0 : (0 : Int) ≤ (j4 : Int) := by omega
            obtain ⟨x, hx⟩ : ∃ x, x = (Lb.getD j4 evt0).2.1 := ⟨_, rfl⟩
            obtain ⟨y, hy⟩ : ∃ y, y = (Lb.getD j4 evt0).2.2 := ⟨_, rfl⟩
            rw [← hx] at c1
            rw [← hy] at c2
            have HX := (show Hid (x = (Lb.getD j4 evt0).2.1) from hx)
            have HY := (show Hid (y = (Lb.getD j4 evt0).2.2) from hy)
            clear hx hy
            by_cases hxy : x > y
            · have hd := decide_eq_true hxy
              go_upto_region 26 with fail
              go_quiet (fail)
              go_wp2_with fail
              go_ret
              exact ⟨rfl, ((Kept.refl none' w).drewN q4).drewN nq⟩
            · have hd := decide_eq_false hxy
              go_upto_region 26 with fail
              go_quiet (fail)
              go_wp2_with fail
              go_roundw
              case rel => exact ⟨j4 + 1, q4 + nq, by go_num, by omega, rfl, fun t ht => by
                by_cases h : t = j4
                · rw [h, ← HX.out, ← HY.out]; omega
                · exact HLp.out t (by omega)⟩
              case measure => simp [intOf]; omega
          have HGB := (show Hid (GoodE Lb) from good_of HWB.out (fun t ht => HLp.out t (by have := HLB.out; omega)))
          have hk0 : Kept none' w (w.drewN q4) := (Kept.refl none' w).drewN q4
          have HA0 := (show Hid (EvS (w.drewN q4) (.slice aa na ca) La) from HA.out.later hk0)
          have HB0 := (show Hid (EvS (w.drewN q4) (.slice ab nb cb) Lb) from HB.out.later hk0)
          obtain ⟨w0, hw0⟩ : ∃ w0, w0 = w.drewN q4 := ⟨_, rfl⟩
          rw [← hw0] at hk0 HA0 HB0 ⊢
          clear hw0 HA HB HWA HWB HLo HLp hj4 hjj
          have hla : La.length ≤ 4096 := by have := HLA.out; omega
          have hlb : Lb.length ≤ 4096 := by have := HLB.out; omega
          go_upto_region 29 with (go_at_call 6; refine Calls.mono (build' _ La w0 HA0.out HGA.out hla) ?_; rintro e w1 ⟨p1, K1, rfl, hk1, B1⟩)
          go_upto_region 30 with (go_at_call 6; refine Calls.mono (build' _ Lb w1 (HB0.out.later hk1) HGB.out hlb) ?_; rintro e w2 ⟨p2, K2, rfl, hk2, B2⟩)
          replace B1 := B1.later hk2
          replace hk1 := hk1.then hk2
          clear hk2
          have HW3 := (show Hid _ from without' p1 p2 K1 K2 4096 4096 4096 4096 w2 B1.1 B2.1 (by decide) B1.2.2.1 B2.2.2.1 (by decide) B1.2.2.2)
          go_upto_region 31 with (go_at_call 7; refine Calls.mono HW3.out ?_; rintro e w3 ⟨p3, Ku, rfl, hk4, B3⟩)
          replace hk1 := hk1.then hk4
          have HH3 := (show Hid (Held w3 p3 Ku 1073741824) from B3.1)
          have HAG := (show Hid (∀ k x, memB (Ku k) x = dB La Lb k x) from agree B3.2.1 B1.2.1 B2.2.1)
          have HLN := (show Hid (∀ k, (Ku k).length ≤ 8192) from B3.2.2.1)
          have HFI := (show Hid (∀ S A : List (List UInt8), DS La S → A.Pairwise (· ≤ ·) → A.Nodup → (∀ k, k ∈ A ↔ Ku k ≠ []) → left Ku S = A) from fun S A h1 h2 h3 h4 => left_all B3.1.canon B3.2.1 B1.2.1 h1 h2 h3 h4)
          clear HW3 hk4 B1 B2 B3
          have HD1 := (show Hid _ from distinct _ La w3 (HA0.out.later hk1) HGA.out hla)
          go_upto_region 34 with (go_at_call 8; refine Calls.mono HD1.out ?_; rintro e w4 ⟨V, S, rfl, hk4, ⟨aS, nS, cS, rfl, hnS, hrS⟩, hds⟩; have HNS := (show Hid (nS = S.length) from hnS); clear hnS)
          have HRS := (show Hid (S ≠ [] → ∃ g off, aS = some ⟨g, off, none⟩ ∧ ∀ i, i < nS → w4.cell? ⟨g, off + i, none⟩ = some (encStr (S.getD i []))) from fun h => by
            obtain ⟨g, off, cur, e, _, hg, hc⟩ := hrS h
            exact ⟨g, off, e, fun i hi => by rw [cell_of_row w4 g _ cur 9 (0, 0) hg]; exact hc i hi⟩)
          have HKL := (show Hid (∀ k ∈ S, k.length ≤ maxLen) from fun k hk => by
            obtain ⟨e, he, rfl⟩ := (hds.2.2.1 k).1 hk
            have := (HGA.out e he).1
            rw [Array.length_toList]
            exact this)
          have hnS12 : nS ≤ 4096 := by have := HNS.out; have := hds.2.2.2; omega
          have HDS := (show Hid (DS La S) from hds)
          have HA4 := (show Hid (EvS w4 (.slice aa na ca) La) from HA0.out.later (hk1.then hk4))
          have HB4 := (show Hid (EvS w4 (.slice ab nb cb) Lb) from HB0.out.later (hk1.then hk4))
          have HH4 := (show Hid (Held w4 p3 Ku 1073741824) from HH3.out.later hk4)
          replace hk1 := hk0.then (hk1.then hk4)
          clear HD1 hk4 hrS hds HA0 HB0 hk0 HH3
          obtain ⟨i0, hi, hz0, hz1, hz2⟩ := info_parts Try.info9
          go_wp2_with fail
          go_loopw [14, 15] (fun v i wr => ∃ (kk : Nat), i = .int .i64 kk ∧ kk ≤ nS ∧ DRow w4 v (left Ku (S.take kk)) wr) (fun _ i _ => nS - (intOf i).toNat)
          case atStart => exact ⟨0, rfl, Nat.zero_le _, ⟨World.ownsRow_nil _ _ _ _, Kept.refl _ _⟩⟩
          case round =>
            obtain ⟨kk, rfl, hkk, hrow⟩ := hrel
            have HRow := (show Hid (DRow w4 u14 (left Ku (S.take kk)) wr) from hrow)
            have hkr := hrow.2
            clear hrow
            by_cases hlt4 : kk < nS
            · have hil : kk < S.length := by rw [← HNS.out]; exact hlt4
              have hSne : S ≠ [] := fun h => by rw [h] at hil; simp at hil
              obtain ⟨g, off, hao, hcs⟩ := HRS.out hSne
              have c1 := hkr.cell (hcs kk hlt4) (fun h => h)
              obtain ⟨s, hse⟩ : ∃ s : ByteArray, encStr (S.getD kk []) = .string s := ⟨_, rfl⟩
              have hks : key s = S.getD kk [] := by
                have : (Value.string ⟨(S.getD kk []).toArray⟩) = .string s := hse
                injection this with this
                rw [← this]
              have HKS := (show Hid (key s = S.getD kk []) from hks)
              have hsl : s.size ≤ maxLen := by
                have := HKL.out (S.getD kk []) (by simp [List.getD, hil])
                rw [← hks, Array.length_toList] at this
                exact this
              rw [hse] at c1
              subst hao
              have hlt' : (kk : Int) < (nS : Int) := by omega
              have hi0 : (0 : Int) ≤ (kk : Int) := by omega
              obtain ⟨G, hG⟩ : ∃ G, G = Ku (key s) := ⟨_, rfl⟩
              have hcan : canon 1 G := by rw [hG]; exact HH4.out.canon _
              have hGl : G.length ≤ 8192 := by rw [hG]; exact HLN.out _
              have HGm := (show Hid (∀ x, memB G x = dB La Lb (key s) x) from fun x => by rw [hG]; exact HAG.out _ x)
              have HR1 := (show Hid (Calls Try.prog 9 #[.pointer (some ⟨p3, 0, none⟩), .string s] wr fun e w' => ∃ V, e = .returned V ∧ Kept none' wr w' ∧ SpanS w' (fun _ => True) V G) from by rw [hG]; exact rangesH p3 s Ku 1073741824 wr hsl (HH4.out.later hkr) (by rw [← hG]; omega))
              have HG := (show Hid (G = Ku (key s)) from hG)
              have HCN := (show Hid (canon 1 G) from hcan)
              clear hcs hSne hil hse hks hG hcan
              go_upto_region 40 with (go_at_call 9; refine Calls.mono HR1.out ?_; rintro e w5 ⟨V2, rfl, hk5, ⟨ag, ng, cg, rfl, hng, hgc, hgr⟩⟩; have HSP := (show Hid (SpanS w5 (fun _ => True) (.slice ag ng cg) G) from ⟨ag, ng, cg, rfl, hng, hgc, hgr⟩); have HNG := (show Hid (ng = G.length) from hng); clear hng hgc hgr)
              have hng13 : ng ≤ 8192 := by rw [HNG.out]; exact hGl
              have HC1 := (show Hid _ from zzCanonical (fun _ => True) ag ng cg G w5 HSP.out HCN.out (by omega))
              go_upto_region 42 with (go_at_call 10; refine Calls.mono HC1.out ?_; rintro e w6 ⟨rfl, q6, rfl⟩)
              have HEA := (show Hid (EvS w5 (.slice aa na ca) La) from HA4.out.later (hkr.then hk5))
              have HEB := (show Hid (EvS w5 (.slice ab nb cb) Lb) from HB4.out.later (hkr.then hk5))
              have HPR := (show Hid (∀ (l h : Int) W, Kept none' w5 W → 0 ≤ l → l ≤ 18446744073709551615 → 0 ≤ h → h ≤ 18446744073709551615 → Calls Try.prog 11 #[.slice aa na ca, .slice ab nb cb, .slice ag ng cg, .string s, .int .u64 l, .int .u64 h] W fun e w' => e = .returned (.int .i64 (probe (dB La Lb (key s)) l h)) ∧ w' = W) from fun l h W k a1 a2 a3 a4 => zzProbe aa ab ag na nb ng ca cb cg La Lb G (fun _ => True) s l h W (HEA.out.later k) (HEB.out.later k) HLA.out HLB.out hna' hnb' (wf_of_good HGA.out) (wf_of_good HGB.out) (HSP.out.later k (fun _ _ _ h => h)) (by omega) HGm.out a1 a2 a3 a4)
              obtain ⟨d, hd⟩ : ∃ d, d = dB La Lb (key s) := ⟨_, rfl⟩
              rw [← hd] at HPR HGm
              have HNE := (show Hid (∀ l h, probe d l h = 2 → G ≠ []) from fun l h e hG0 => by
                obtain ⟨x, hx⟩ := probe_some e
                rw [← HGm.out x, hG0] at hx
                cases hx)
              have HHE := (show Hid (∀ i, i < ng → probe d (G.getD i (0, 0)).1 (G.getD i (0, 0)).2 = 2) from fun i hi => by
                have hil : i < G.length := by rw [← HNG.out]; exact hi
                have hbd := canon_bd HCN.out (G.getD i (0, 0)) (by simp [List.getD, hil])
                exact probe_at hbd.2.1 (by rw [← HGm.out]; exact memB_of hil ⟨Int.le_refl _, hbd.2.1⟩))
              have HRow5 := (show Hid (DRow w4 u14 (left Ku (S.take kk)) w5) from HRow.out.later hk5)
              have HSN := (show Hid (left Ku (S.take (kk + 1)) = if G = [] then left Ku (S.take kk) else left Ku (S.take kk) ++ [key s]) from by
                have := left_snoc Ku (S := S) (kk := kk) (by rw [← HNS.out]; exact hlt4)
                rw [← HKS.out, ← HG.out] at this
                exact this)
              clear hd HC1 HR1 HRow
              go_wp2_with fail
              go_loopw [18, 19] (fun z i wr => ∃ (b : Bool) (ii q : Nat), z = .bool b ∧ i = .int .i64 ii ∧ ii ≤ na ∧ wr = w5.drewN q ∧ (b = true → G ≠ [])) (fun _ i _ => na - (intOf i).toNat)
              case atStart => exact ⟨false, 0, q6, rfl, rfl, Nat.zero_le _, rfl, fun h => by cases h⟩
              case round =>
                obtain ⟨b7, i7, q7, rfl, rfl, hi7, hwr, hb7⟩ := hrel
                rw [hwr]
                clear hwr
                have HB7 := (show Hid (b7 = true → G ≠ []) from hb7)
                clear hb7
                by_cases hlt7 : i7 < na
                · obtain ⟨g7, off7, s7, hao, e0, e1, e2, hs7⟩ := HEA.out.at i7 hlt7
                  have hgd := HGA.out (La.getD i7 evt0) (by have := HLA.out; simp [List.getD, show i7 < La.length by omega])
                  obtain ⟨lo, hlo⟩ : ∃ lo, lo = (La.getD i7 evt0).2.1 := ⟨_, rfl⟩
                  obtain ⟨hh, hhh⟩ : ∃ hh, hh = (La.getD i7 evt0).2.2 := ⟨_, rfl⟩
                  rw [← hlo] at e1 hgd
                  rw [← hhh] at e2 hgd
                  obtain ⟨_, d1, d2, d3⟩ := hgd
                  have hlb1 := lo1_bd d1 (by omega)
                  obtain ⟨r, hr⟩ : ∃ r, r = probe d (lo1 lo) hh := ⟨_, rfl⟩
                  have hr12 := probe_or d (lo1 lo) hh
                  have HP1 := (show Hid (∀ W, Kept none' w5 W → Calls Try.prog 11 #[.slice aa na ca, .slice ab nb cb, .slice ag ng cg, .string s, .int .u64 (lo1 lo), .int .u64 hh] W fun e w' => e = .returned (.int .i64 r) ∧ w' = W) from fun W k => by rw [hr]; exact HPR.out (lo1 lo) hh W k hlb1.1 hlb1.2 (by omega) d3)
                  have HNN := (show Hid (r = 2 → G ≠ []) from fun e => HNE.out (lo1 lo) hh (hr ▸ e))
                  rw [← hr] at hr12
                  subst hao
                  have hlt' : (i7 : Int) < (na : Int) := by omega
                  have hi0 : (0 : Int) ≤ (i7 : Int) := by omega
                  clear hr hlo hhh hs7 d1 d2 d3 hlb1
                  by_cases hne : key s7 = key s
                  · have heq := eq_of rfl hne
                    clear hne
                    go_upto_region 47 with fail
                    go_quiet (first
                      | (go_at_call 12; exact quiet_at (zzLo lo _))
                      | (go_at_call 11; exact quiet_at (HP1.out _ ((Kept.refl none' w5).drewN _))))
                    rcases hr12 with hr1 | hr1
                    · subst hr1
                      go_wp2_with fail
                      go_roundw
                      case rel => exact ⟨b7, i7 + 1, _, rfl, by go_num, by omega, rfl, HB7.out⟩
                      case measure => simp [intOf]; omega
                    · subst hr1
                      go_wp2_with fail
                      go_roundw
                      case rel => exact ⟨true, i7 + 1, _, rfl, by go_num, by omega, rfl, fun _ => HNN.out rfl⟩
                      case measure => simp [intOf]; omega
                  · have heq := not_eq_of rfl hne
                    clear hne
                    go_wp2_with fail
                    go_roundw
                    case rel => exact ⟨b7, i7 + 1, q7, rfl, by go_num, by omega, rfl, HB7.out⟩
                    case measure => simp [intOf]; omega
                go_wp2_with fail
                go_loopw [18, 21] (fun z i wr => ∃ (b : Bool) (ii q : Nat), z = .bool b ∧ i = .int .i64 ii ∧ ii ≤ nb ∧ wr = w5.drewN q ∧ (b = true → G ≠ [])) (fun _ i _ => nb - (intOf i).toNat)
                case atStart => exact ⟨b7, 0, q7, rfl, rfl, Nat.zero_le _, rfl, HB7.out⟩
                case round =>
                  obtain ⟨b8, i8, q8, rfl, rfl, hi8, hwr, hb8⟩ := hrel
                  rw [hwr]
                  clear hwr
                  have HB8 := (show Hid (b8 = true → G ≠ []) from hb8)
                  clear hb8
                  by_cases hlt8 : i8 < nb
                  · obtain ⟨g8, off8, s8, hao, e0, e1, e2, hs8⟩ := HEB.out.at i8 hlt8
                    have hgd := HGB.out (Lb.getD i8 evt0) (by have := HLB.out; simp [List.getD, show i8 < Lb.length by omega])
                    obtain ⟨lo, hlo⟩ : ∃ lo, lo = (Lb.getD i8 evt0).2.1 := ⟨_, rfl⟩
                    obtain ⟨hh, hhh⟩ : ∃ hh, hh = (Lb.getD i8 evt0).2.2 := ⟨_, rfl⟩
                    rw [← hlo] at e1 hgd
                    rw [← hhh] at e2 hgd
                    obtain ⟨_, d1, d2, d3⟩ := hgd
                    have hlb1 := lo1_bd d1 (by omega)
                    obtain ⟨r, hr⟩ : ∃ r, r = probe d (lo1 lo) hh := ⟨_, rfl⟩
                    have hr12 := probe_or d (lo1 lo) hh
                    have HP1 := (show Hid (∀ W, Kept none' w5 W → Calls Try.prog 11 #[.slice aa na ca, .slice ab nb cb, .slice ag ng cg, .string s, .int .u64 (lo1 lo), .int .u64 hh] W fun e w' => e = .returned (.int .i64 r) ∧ w' = W) from fun W k => by rw [hr]; exact HPR.out (lo1 lo) hh W k hlb1.1 hlb1.2 (by omega) d3)
                    have HNN := (show Hid (r = 2 → G ≠ []) from fun e => HNE.out (lo1 lo) hh (hr ▸ e))
                    rw [← hr] at hr12
                    subst hao
                    have hlt' : (i8 : Int) < (nb : Int) := by omega
                    have hi0 : (0 : Int) ≤ (i8 : Int) := by omega
                    clear hr hlo hhh hs8 d1 d2 d3 hlb1
                    by_cases hne : key s8 = key s
                    · have heq := eq_of rfl hne
                      clear hne
                      go_upto_region 56 with fail
                      go_quiet (first
                        | (go_at_call 12; exact quiet_at (zzLo lo _))
                        | (go_at_call 11; exact quiet_at (HP1.out _ ((Kept.refl none' w5).drewN _))))
                      rcases hr12 with hr1 | hr1
                      · subst hr1
                        go_wp2_with fail
                        go_roundw
                        case rel => exact ⟨b8, i8 + 1, _, rfl, by go_num, by omega, rfl, HB8.out⟩
                        case measure => simp [intOf]; omega
                      · subst hr1
                        go_wp2_with fail
                        go_roundw
                        case rel => exact ⟨true, i8 + 1, _, rfl, by go_num, by omega, rfl, fun _ => HNN.out rfl⟩
                        case measure => simp [intOf]; omega
                    · have heq := not_eq_of rfl hne
                      clear hne
                      go_wp2_with fail
                      go_roundw
                      case rel => exact ⟨b8, i8 + 1, q8, rfl, by go_num, by omega, rfl, HB8.out⟩
                      case measure => simp [intOf]; omega
                  go_wp2_with fail
                  go_loopw [18, 23] (fun z i wr => ∃ (b : Bool) (ii q : Nat), z = .bool b ∧ i = .int .i64 ii ∧ ii ≤ ng ∧ wr = w5.drewN q ∧ (b = true → G ≠ []) ∧ (0 < ii → b = true)) (fun _ i _ => ng - (intOf i).toNat)
                  case atStart => exact ⟨b8, 0, q8, rfl, rfl, Nat.zero_le _, rfl, HB8.out, fun h => absurd h (Nat.lt_irrefl _)⟩
                  case round =>
                    obtain ⟨b9, i9, q9, rfl, rfl, hi9, hwr, hb9, hp9⟩ := hrel
                    rw [hwr]
                    clear hwr
                    have HB9 := (show Hid (b9 = true → G ≠ []) from hb9)
                    have HP9 := (show Hid (0 < i9 → b9 = true) from hp9)
                    clear hb9 hp9
                    by_cases hlt9 : i9 < ng
                    · obtain ⟨g9, off9, hao, e1, e2⟩ := HSP.out.at i9 hlt9
                      have hbd := canon_bd HCN.out (G.getD i9 (0, 0)) (by have := HNG.out; simp [List.getD, show i9 < G.length by omega])
                      have hr2 := HHE.out i9 hlt9
                      obtain ⟨lo, hlo⟩ : ∃ lo, lo = (G.getD i9 (0, 0)).1 := ⟨_, rfl⟩
                      obtain ⟨hh, hhh⟩ : ∃ hh, hh = (G.getD i9 (0, 0)).2 := ⟨_, rfl⟩
                      rw [← hlo] at e1 hbd hr2
                      rw [← hhh] at e2 hbd hr2
                      have HP1 := (show Hid (∀ W, Kept none' w5 W → Calls Try.prog 11 #[.slice aa na ca, .slice ab nb cb, .slice ag ng cg, .string s, .int .u64 lo, .int .u64 hh] W fun e w' => e = .returned (.int .i64 2) ∧ w' = W) from fun W k => by rw [← hr2]; exact HPR.out lo hh W k (by omega) (by omega) (by omega) hbd.2.2)
                      have HNN := (show Hid (G ≠ []) from HNE.out lo hh hr2)
                      subst hao
                      have hlt' : (i9 : Int) < (ng : Int) := by omega
                      have hi0 : (0 : Int) ≤ (i9 : Int) := by omega
                      clear hr2 hlo hhh hbd
                      go_upto_region 64 with fail
                      go_quiet (first | (go_at_call 11; exact quiet_at (HP1.out _ ((Kept.refl none' w5).drewN _))))
                      go_wp2_with fail
                      go_roundw
                      case rel => exact ⟨true, i9 + 1, _, rfl, by go_num, by omega, rfl, fun _ => HNN.out, fun _ => rfl⟩
                      case measure => simp [intOf]; omega
                    have hRW := HRow5.out.later ((Kept.refl none' w5).drewN q9)
                    have hlen := left_len Ku S kk
                    have hSl : S.length ≤ 4096 := by rw [← HNS.out]; exact hnS12
                    cases b9 with
                    | true =>
                      have HGN := (show Hid (G ≠ []) from HB9.out rfl)
                      obtain ⟨W, hW⟩ : ∃ W, W = w5.drewN q9 := ⟨_, rfl⟩
                      rw [← hW] at hRW ⊢
                      clear hW
                      obtain ⟨T, hT⟩ : ∃ T, T = left Ku (S.take kk) := ⟨_, rfl⟩
                      rw [← hT] at hRW hlen HSN
                      obtain ⟨hown, hkW⟩ := hRW
                      have hkWs := hkW.size
                      clear hT HRow5
                      go_wp2_with (first
                        | (at_builtin; refine wpList_append_own _ rfl _ _ 30 rfl w4.heap.size 9 i0 (.string ⟨#[]⟩) 1 16 Try.underlying30 hi hz0 hz1 hz2 rfl (by decide) _ _ _ rfl (hown.alloc _) ⟨W.heap.size, 0, none⟩ 1 1 [.string s] rfl rfl (cell_one_new _ _ _) (by simp [Value.oneCell']) (by unfold maxLen at *; omega) (by omega) (by simp; omega) ?_; intro v' w7 hown' hg3 hnil3; go_frame)
                        | go_in)
                      go_roundw
                      case rel =>
                        refine ⟨kk + 1, by go_num, by omega, ?_⟩
                        rw [HSN.out, if_neg HGN.out]
                        refine ⟨?_, (hkW.alloc _).grown hg3 (fun k e h => by have := (hown.lt k e).1; omega)⟩
                        simpa [enc_key] using hown'
                      case measure => simp [intOf]; omega
                    | false =>
                      have HGN := (show Hid (G = []) from Classical.byContradiction fun h => by
                        have h1 : 0 < G.length := List.length_pos_iff.2 h
                        have h2 := HNG.out
                        have := HP9.out (by omega)
                        cases this)
                      go_wp2_with fail
                      go_roundw
                      case rel =>
                        refine ⟨kk + 1, by go_num, by omega, ?_⟩
                        rw [HSN.out, if_pos HGN.out]
                        exact hRW
                      case measure => simp [intOf]; omega
            have hkn : kk = S.length := by have := HNS.out; omega
            have hRowN : DRow w4 u14 (left Ku S) wr := by
              have := HRow.out
              rw [hkn, List.take_length] at this
              exact this
            have HStr := (show Hid (StrS wr (fun g => w4.heap.size ≤ g) u14 (left Ku S)) from hRowN.strs)
            have HA9 := (show Hid _ from actorsH p3 Ku 1073741824 wr (HH4.out.later hkr) (by decide))
            clear hRowN hkn
            go_wp2_with (first
              | (go_at_call 14; refine Calls.mono HA9.out ?_; rintro e w8 ⟨V, A, rfl, hk8, hSA, hp1, hp2, hp3, hp4, hp5⟩; have hEq := HFI.out S A HDS.out hp1 hp2 hp3; have HC9 := (show Hid _ from sameStrings V u14 A _ _ w8 hSA (by rw [← hEq]; exact HStr.out.later hk8 (fun _ _ _ h => h)) (by omega)); clear hSA hp1 hp2 hp3 hp5 hEq)
              | (go_at_call 13; refine Calls.mono HC9.out ?_; rintro e w9 ⟨rfl, q9, rfl⟩))
            go_ret
            exact ⟨rfl, hk1.then (hkr.then (hk8.drewN q9))⟩
end Go.Proofs.Qxb6630298a
