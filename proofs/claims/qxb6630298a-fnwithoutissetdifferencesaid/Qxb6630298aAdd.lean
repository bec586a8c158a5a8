/-
  THE WALK of addSpan.
-/
import Derived.Test.Qxb6630298aVars
import Derived.Deep.DeepCutAuto
import Derived.Deep.RegionWith
import Derived.BigRegion
import Derived.Deep.RegionLaw
import Derived.Deep.CutBlock
namespace Go.Proofs.Qxb6630298a
open Go.RowKit Go.Maps

set_option maxRecDepth 100000 in
set_option maxHeartbeats 16000000 in
theorem add_some (pb : Nat) (s : ByteArray) (lo hi : Int) (F : Nat → Prop) (K : List UInt8 → List (Int × Int)) (nm : Nat) (mb mc : Option Nat) (D E : DataW Unit) (sl : List UInt8 → Loc) (w : World)
    (hs : s.size ≤ maxLen) (hlo : 0 ≤ lo) (hlh : lo ≤ hi) (hhi : hi ≤ 18446744073709551615) (hc : IsClock w pb F K nm mb mc D E sl) (hN : (K (key s)).length ≤ 1099511627776) (hnm : nm < 1099511627776) (hb : bs (K (key s)) < hi) :
    Calls Try.prog 20 #[.pointer (some ⟨pb, 0, none⟩), .string s, .agg #[.int .u64 lo, .int .u64 hi]] w fun e w' => AddPost pb s lo hi F K nm w e w' := by
  have hcan := hc.canon (key s)
  have hbd := bs_bd hcan
  have hcl := cl_canon hcan
  obtain ⟨ao, cc, hV, hcc, hcc2, hn1, hn2, hn3⟩ := hc.slice (key s)
  obtain ⟨b, hbe⟩ : ∃ b, b = bs (K (key s)) := ⟨_, rfl⟩
  obtain ⟨C, hC⟩ : ∃ C, C = cl (K (key s)) := ⟨_, rfl⟩
  obtain ⟨n, hn⟩ : ∃ n, n = C.length := ⟨_, rfl⟩
  have hn40 : n ≤ 1099511627776 := by have := cl_length (K (key s)); rw [hn, hC]; omega
  rw [← hbe] at hb hbd hcl
  rw [← hC] at hcl hV hcc hn2 hn3
  rw [← hn] at hV hcc
  obtain ⟨l1, hl1e⟩ : ∃ l1, l1 = max lo (b + 1) := ⟨_, rfl⟩
  have HL : Hid (l1 = max lo (b + 1)) := hl1e
  have hl1b : 1 ≤ l1 ∧ l1 ≤ hi := by omega
  have k1 : Kept none' w (w.alloc (.cells #[.int .u64 lo, .int .u64 hi] 38)) := (Kept.refl _ _).alloc _
  have hc1 := hc.later k1 (fun _ _ h => h)
  have c0 := (cell_struct hc1.struct).1
  have hl1 := hc1.lookB hs
  rw [← hbe] at hl1
  have k2 : Kept none' w (w.alloc (.cells #[.int .u64 l1, .int .u64 hi] 38)) := (Kept.refl _ _).alloc _
  have hc2 := hc.later k2 (fun _ _ h => h)
  have c1 := (cell_struct hc2.struct).2.1
  have hl2 := hc2.lookC hs
  rw [hV] at hl2
  have HC := (show Hid _ from hc)
  unfold maxLen at hcc2
  have HN1 := (show Hid _ from hn1)
  have HN2 := (show Hid _ from hn2)
  have HN3 := (show Hid _ from hn3)
  have HCL := (show Hid _ from hcl)
  have HCe := (show Hid (C = cl (K (key s))) from hC)
  have HBe := (show Hid (b = bs (K (key s))) from hbe)
  have HNe := (show Hid (n = C.length) from hn)
  have hb0 := hbd.1
  have hb1 := hbd.2
  have hl1a := hl1b.1
  have hl1c := hl1b.2
  clear hbe hc1 hc2 hl1e hc hC hn hn1 hn2 hn3 hcl k1 k2 hcan hV hbd hl1b
  go_enter Try.func20, Try.ntmps20
  go_upto_region 3 with fail
  go_cut [6] (fun t wc => t = .int .u64 b ∧ wc = w.alloc (.cells #[.int .u64 l1, .int .u64 hi] 38))
  case first =>
    by_cases hlt : lo < b + 1
    · have e1 : l1 = b + 1 := by have := HL.out; omega
      have HE : Hid (l1 = b + 1) := e1
      clear e1 hl2 c1
      go_wp2
      go_meet
      exact ⟨rfl, by rw [HE.out]⟩
    · have e1 : l1 = lo := by have := HL.out; omega
      have HE : Hid (l1 = lo) := e1
      clear e1 hl2 c1
      go_wp2
      go_meet
      exact ⟨rfl, by rw [HE.out]⟩
  case rest =>
    obtain ⟨rfl, hwc⟩ := hcut
    rw [hwc]
    clear hwc wc hl1 c0
    go_upto_region 6 with fail
    have k2 : Kept none' w ((w.alloc (.cells #[.int .u64 l1, .int .u64 hi] 38)).alloc (.cells #[.slice ao n cc] 32)) := ((Kept.refl _ _).alloc _).alloc _
    have hr2 : C ≠ [] → ao = some ⟨(sl (key s)).g, (sl (key s)).off, none⟩ ∧ Row ((w.alloc (.cells #[.int .u64 l1, .int .u64 hi] 38)).alloc (.cells #[.slice ao n cc] 32)) (sl (key s)).g (sl (key s)).off (sl (key s)).cap C := fun h => by
      refine ⟨(HN2.out (HN3.out h)).1, ?_⟩
      have h' := HC.out.rows (key s) (by rw [← HCe.out]; exact h)
      rw [← HCe.out] at h'
      exact h'.2.1.later k2 (fun h => h)
    refine (find1 _ _ ao n cc C (sl (key s)).g (sl (key s)).off (sl (key s)).cap l1 (b + 2) _ hl1a (by omega) HNe.out (by omega) HCL.out (by simp [go_sem]) (by simp [go_sem]) hr2).mono ?_
    clear hr2 k2
    rintro e w3 ⟨rfl, q, hw3⟩
    rw [hw3]
    clear hw3
    have hcs := cnt_spec (n := n) (p := p1 C l1) (fun a b hab hb h => by
      have := canon_at HCL.out a b hab (by have := HNe.out; omega)
      simp only [p1, decide_eq_true_eq] at h ⊢
      omega)
    obtain ⟨i, hie⟩ : ∃ i, i = cnt n (p1 C l1) := ⟨_, rfl⟩
    rw [← hie] at hcs ⊢
    have HCS := (show Hid _ from hcs)
    have hin := hcs.1
    clear hcs hie
    go_upto_region 6 with fail
    have hr3 : C ≠ [] → ao = some ⟨(sl (key s)).g, (sl (key s)).off, none⟩ ∧ ∀ W, Kept none' w W → Row W (sl (key s)).g (sl (key s)).off (sl (key s)).cap C := fun h => by
      refine ⟨(HN2.out (HN3.out h)).1, fun W hW => ?_⟩
      have h' := HC.out.rows (key s) (by rw [← HCe.out]; exact h)
      rw [← HCe.out] at h'
      exact h'.2.1.later hW (fun h => h)
    have HR3 := (show Hid _ from hr3)
    clear hr3
    obtain ⟨j, hje⟩ : ∃ j, j = i + cnt (n - i) (p2 C hi i) := ⟨_, rfl⟩
    have HJe : Hid (j = i + cnt (n - i) (p2 C hi i)) := hje
    clear hje
    go_cut [9] (fun t wx => t = .int .i64 j ∧ Vars w l1 hi (.slice ao n cc) i wx)
    case first =>
      have hni : (0 : Int) ≤ (n : Int) - i := by omega
      have hcj : cnt (n - i) (p2 C hi i) ≤ n - i := by have := @List.countP_le_length _ (fun t => !p2 C hi i t) (List.range (n - i)); simpa [cnt] using this
      go_quiet ((go_at_call 25; exact quiet_of (find2 _ _ _ ao n i cc C (sl (key s)).g (sl (key s)).off (sl (key s)).cap hi (b + 2) _ (by omega) HNe.out hin (by omega) HCL.out (by simp [go_sem]) (by simp [go_sem]) (by simp [go_sem]) (fun h => ⟨(HR3.out h).1, (HR3.out h).2 _ ((((((Kept.refl _ _).alloc _).alloc _).alloc _).drewN _).drewN _)⟩))))
      go_wp2_with fail
      go_meet
      exact ⟨int_eq (by have := HJe.out; omega), vars_of rfl rfl rfl rfl⟩
    case rest =>
      obtain ⟨rfl, hvars⟩ := hcut
      clear hl2 c1
      obtain ⟨cv0, cv1, fv⟩ := cell_struct hvars.s
      have fv0 := fv 0
      have fv1 := fv 1
      obtain ⟨cs, fs⟩ := cell_one hvars.v
      obtain ⟨ci, fi⟩ := cell_one hvars.i
      clear fv
      have HVA := (show Hid _ from hvars)
      clear hvars
      have HJS : Hid (i ≤ j ∧ j ≤ n ∧ (∀ t, i ≤ t → t < j → (C.getD t (0, 0)).1 - 1 ≤ hi) ∧ (∀ t, j ≤ t → t < n → hi < (C.getD t (0, 0)).1 - 1)) := by
        have h := cnt_spec (n := n - i) (p := p2 C hi i) (fun a b hab hb h => by
          have := canon_at HCL.out (i + a) (i + b) (by omega) (by have := HNe.out; omega)
          simp only [p2, decide_eq_true_eq] at h ⊢
          omega)
        have hj := HJe.out
        refine ⟨by omega, by omega, fun t h1 h2 => ?_, fun t h1 h2 => ?_⟩
        · have := h.2.1 (t - i) (by omega)
          simp only [p2, decide_eq_false_iff_not, show i + (t - i) = t by omega] at this
          omega
        · have := h.2.2 (t - i) (by omega) (by omega)
          simp only [p2, decide_eq_true_eq, show i + (t - i) = t by omega] at this
          omega
      have hjn : j ≤ n := HJS.out.2.1
      have hij0 : i ≤ j := HJS.out.1
      obtain ⟨L, hL⟩ : ∃ L, L = if i < j then min l1 (C.getD i (0, 0)).1 else l1 := ⟨_, rfl⟩
      obtain ⟨H, hH⟩ : ∃ H, H = if i < j then max hi (C.getD (j - 1) (0, 0)).2 else hi := ⟨_, rfl⟩
      have HLe : Hid (L = if i < j then min l1 (C.getD i (0, 0)).1 else l1) := hL
      have HHe : Hid (H = if i < j then max hi (C.getD (j - 1) (0, 0)).2 else hi) := hH
      clear hL hH
      go_upto_if 46 with fail
      go_cut [9] (fun t wx => t = .int .i64 j ∧ Vars w L H (.slice ao n cc) i wx)
      case first =>
        by_cases hij : i < j
        · obtain ⟨hao, hrow⟩ := HR3.out (fun h => by have := HNe.out; rw [h] at this; simp at this; omega)
          have hrw := hrow _ HVA.out.kept
          have hgw : (sl (key s)).g < w.heap.size := (hrow w (Kept.refl _ _)).lt
          obtain ⟨g, hg⟩ : ∃ g, g = (sl (key s)).g := ⟨_, rfl⟩
          obtain ⟨off, hoff⟩ : ∃ off, off = (sl (key s)).off := ⟨_, rfl⟩
          rw [← hg, ← hoff] at hao hrw
          rw [← hg] at hgw
          obtain ⟨ri0, ri1⟩ := hrw.cells i (by have := HNe.out; omega)
          obtain ⟨rj0, rj1⟩ := hrw.cells (j - 1) (by have := HNe.out; omega)
          have e1 : L = min l1 (C.getD i (0, 0)).1 := by have := HLe.out; rwa [if_pos hij] at this
          have e2 : H = max hi (C.getD (j - 1) (0, 0)).2 := by have := HHe.out; rwa [if_pos hij] at this
          obtain ⟨x, hx⟩ : ∃ x, x = C.getD i (0, 0) := ⟨_, rfl⟩
          obtain ⟨y, hy⟩ : ∃ y, y = C.getD (j - 1) (0, 0) := ⟨_, rfl⟩
          rw [← hx] at ri0 ri1 e1
          rw [← hy] at rj0 rj1 e2
          have E1 : Hid (L = min l1 x.1) := e1
          have E2 : Hid (H = max hi y.2) := e2
          clear hx hy e1 e2 hrw hrow hg hoff
          subst hao
          have hin' : (i : Int) < (n : Int) := by omega
          have hi0 : (0 : Int) ≤ (i : Int) := by omega
          have hjn' : (j : Int) - 1 < (n : Int) := by omega
          have hj0 : (0 : Int) ≤ (j : Int) - 1 := by omega
          have hgv : g ≠ w.heap.size := by omega
          by_cases hmin : x.1 < l1
          · have eL : L = x.1 := by have := E1.out; omega
            have EL : Hid (L = x.1) := eL
            clear eL
            go_wp2_with fail
            go_region
            all_goals
              by_cases hmax : hi < y.2
              · have eH : H = y.2 := by have := E2.out; omega
                have EH : Hid (H = y.2) := eH
                clear eH
                go_wp2_with fail
                go_region
                go_wp2_with fail
                go_meet
                exact ⟨rfl, by rw [EL.out, EH.out]; exact ((HVA.out.setLo _).setHi _).drew.drew⟩
              · have eH : H = hi := by have := E2.out; omega
                have EH : Hid (H = hi) := eH
                clear eH
                go_wp2_with fail
                go_region
                go_wp2_with fail
                go_meet
                exact ⟨rfl, by rw [EL.out, EH.out]; exact ((HVA.out.setLo _).setHi _).drew.drew⟩
          · have eL : L = l1 := by have := E1.out; omega
            have EL : Hid (L = l1) := eL
            clear eL
            go_wp2_with fail
            go_region
            all_goals
              by_cases hmax : hi < y.2
              · have eH : H = y.2 := by have := E2.out; omega
                have EH : Hid (H = y.2) := eH
                clear eH
                go_wp2_with fail
                go_region
                go_wp2_with fail
                go_meet
                exact ⟨rfl, by rw [EL.out, EH.out]; exact ((HVA.out.setLo _).setHi _).drew.drew⟩
              · have eH : H = hi := by have := E2.out; omega
                have EH : Hid (H = hi) := eH
                clear eH
                go_wp2_with fail
                go_region
                go_wp2_with fail
                go_meet
                exact ⟨rfl, by rw [EL.out, EH.out]; exact ((HVA.out.setLo _).setHi _).drew.drew⟩
        · have e1 : L = l1 := by have := HLe.out; rwa [if_neg hij] at this
          have e2 : H = hi := by have := HHe.out; rwa [if_neg hij] at this
          have E1 : Hid (L = l1) := e1
          have E2 : Hid (H = hi) := e2
          clear e1 e2
          go_wp2_with fail
          go_meet
          exact ⟨rfl, by rw [E1.out, E2.out]; exact HVA.out⟩
      case rest =>
        obtain ⟨rfl, hvars⟩ := hcut
        obtain ⟨W, hWe⟩ : ∃ W, W = wc := ⟨_, rfl⟩
        rw [← hWe] at hvars ⊢
        clear hWe wc cv0 cv1 fv0 fv1 cs fs ci fi HVA
        obtain ⟨cv0, cv1, fv⟩ := cell_struct hvars.s
        have fv0 := fv 0
        have fv1 := fv 1
        obtain ⟨cs, fs⟩ := cell_one hvars.v
        obtain ⟨ci, fi⟩ := cell_one hvars.i
        have HVA := (show Hid _ from hvars)
        clear fv hvars
        have hst := (HVA.out.kept.block pb (HC.out.bound _ HC.out.fp) (fun h => h)).trans HC.out.struct
        have HST := (show Hid _ from hst)
        have HMB : Hid (MapAt W (plainElem Try.prog 24) mb nm D) := HC.out.base.imp id (fun ⟨b, e, _, ho⟩ => ⟨b, e, ownsMap_later ho HVA.out.kept (fun h => h)⟩)
        have HMC : Hid (MapAt W rawElem mc nm E) := HC.out.cloud.imp id (fun ⟨b, e, _, ho⟩ => ⟨b, e, ownsMap_later ho HVA.out.kept (fun h => h)⟩)
        clear hst
        have hnl := new_law HNe.out hb0 HCL.out HL.out hlo hlh hb hhi hij0 hjn (fun t ht => by have := HCS.out.2.1 t ht; simp only [p1, decide_eq_false_iff_not] at this; omega) (fun t h1 h2 => by have := HCS.out.2.2 t h1 h2; simp only [p1, decide_eq_true_eq] at this; omega) HJS.out.2.2.1 HJS.out.2.2.2 HLe.out HHe.out
        have HNL := (show Hid _ from hnl)
        clear hnl
        go_upto_block 0 with fail
        go_cut [9] (fun t wx => ∃ V mb' D' g off c, t = .int .i64 j ∧ Mid pb s F K nm mb mc D E sl w (newR b C L H i j) V mb' D' g off c wx)
        case first =>
          by_cases hLb : L = b + 1
          · have HLb : Hid (L = b + 1) := hLb
            have eLb : (L == b + 1) = true := by simp [hLb]
            have hHb := (HNL.out.2.2.2.1 hLb).2.2
            clear hLb
            have hH64 : H ≤ 18446744073709551615 := by
              have h1 := bs_bd HNL.out.1
              rw [(HNL.out.2.2.2.1 HLb.out).1] at h1
              exact h1.2
            have hpw : pb < w.heap.size := HC.out.bound _ HC.out.fp
            have hmbw : ∀ k, mb = some k → k < w.heap.size := fun k e => by
              rcases HC.out.base with ⟨e', _⟩ | ⟨b', e', hf, _⟩
              · rw [e] at e'; cases e'
              · rw [e] at e'; cases e'; exact HC.out.bound _ hf
            go_wp2_with fail
            refine (setBase_any pb s H mb mc nm D W hs (by omega) hH64 (by unfold maxLen; omega) HST.out HMB.out).mono ?_
            rintro e w2 ⟨rfl, b', hst2, ho2, hb2, hk2⟩
            have hv2 : w2.heap[w.heap.size + 1]? = some (.cells #[.slice ao n cc] 32 (0, 0)) :=
              (hk2.block _ (Array.getElem?_eq_some_iff.1 HVA.out.v).1 (fun h => by rcases h with h | h; omega; have := hmbw _ h; omega)).trans HVA.out.v
            obtain ⟨cs2, fs2⟩ := cell_one hv2
            have HM2 : Hid (MapAt w2 rawElem mc nm E) := HMC.out.imp id (fun ⟨b, e, ho⟩ => ⟨b, e, ownsMap_later ho hk2 (fun h => by
              rcases h with h | h
              · subst h; exact owns_ne_cells ho HST.out rfl
              · exact HC.out.two _ h e)⟩)
            have H2 : Hid (w2.heap[pb]? = some (.cells #[.map (some b'), .map mc] 44 (0, 0)) ∧ w2.ownsMap Try.prog 9 (plainElem Try.prog 24) b' (nm + 1) (D.put (.string (key s)) (.lit (.int .u64 H))) ∧ (mb = some b' ∨ w.heap.size ≤ b') ∧ Kept (fun k => k = pb ∨ mb = some k) w w2) :=
              ⟨hst2, ho2, hb2.imp id (Nat.le_trans HVA.out.kept.size), (HVA.out.kept.mono (fun _ _ h => h.elim)).trans hk2 (fun _ _ h => h)⟩
            have HV2 := (show Hid _ from hv2)
            clear hst2 ho2 hb2 hk2 hv2
            clear hmbw cs fs cv0 cv1 fv0 fv1 ci fi
            have hj0 : (0 : Int) ≤ (j : Int) := by omega
            have hjn' : (j : Int) ≤ (n : Int) := by omega
            have hjc' : (j : Int) ≤ (cc : Int) := by omega
            have hnc' : (n : Int) ≤ (cc : Int) := by omega
            go_wp2_with fail
            · go_meet
              refine midA (V := .slice ao (n - j) 0) HC.out HCe.out HNe.out hjn HN2.out HN3.out (HNL.out.2.2.2.1 HLb.out).1 (by omega) (HNL.out.2.2.2.1 HLb.out).2.1 H2.out HV2.out HM2.out (.inl ⟨by omega, _, _, rfl⟩) _
            · go_meet
              exact midA (V := .slice (ao.map (fun x => x.add (j * 2))) (n - j) (cc - j)) HC.out HCe.out HNe.out hjn HN2.out HN3.out (HNL.out.2.2.2.1 HLb.out).1 (by omega) (HNL.out.2.2.2.1 HLb.out).2.1 H2.out HV2.out HM2.out (.inr rfl) _
          · have eLb : (L == b + 1) = false := by simp [hLb]
            have HLb : Hid (bs (newR b C L H i j) = b ∧ cl (newR b C L H i j) = C.take i ++ (L, H) :: C.drop j) := HNL.out.2.2.2.2 hLb
            clear hLb
            obtain ⟨i0, hi0, hz0, hz1, hz2⟩ := info_parts Try.info38
            by_cases hij : i < j
            · have eij : ((i : Int) == (j : Int)) = false := by simp; omega
              have hCne : C ≠ [] := fun h => by have := HNe.out; rw [h] at this; simp at this; omega
              obtain ⟨hao, hrow⟩ := HR3.out hCne
              have hcap := (HN2.out (HN3.out hCne)).2.1
              have hrw := hrow _ HVA.out.kept
              rw [← hcap] at hrw
              have hgw : (sl (key s)).g < w.heap.size := (hrow w (Kept.refl _ _)).lt
              have HOld : Hid (Old K sl s (sl (key s)).g) := ⟨by rw [← HCe.out]; exact hCne, rfl⟩
              obtain ⟨g, hg⟩ : ∃ g, g = (sl (key s)).g := ⟨_, rfl⟩
              obtain ⟨off, hoff⟩ : ∃ off, off = (sl (key s)).off := ⟨_, rfl⟩
              rw [← hg, ← hoff] at hao hrw
              rw [← hg] at hgw HOld
              obtain ⟨ri0, ri1⟩ := hrw.cells i (by have := HNe.out; omega)
              have rf0 := (hrw.there (i * 2) (by omega)).2
              have rf1 := (hrw.there (i * 2 + 1) (by omega)).2
              rw [← Nat.add_assoc] at rf1
              have HRW : Hid (Row W g off cc C) := hrw
              clear hrow hg hoff hcap hrw hCne
              subst hao
              have hin' : (i : Int) < (n : Int) := by omega
              have hi0' : (0 : Int) ≤ (i : Int) := by omega
              have hgv : g ≠ w.heap.size := by omega
              have hgv1 : g ≠ w.heap.size + 1 := by omega
              have hgv2 : g ≠ w.heap.size + 1 + 1 := by omega
              have r1 : Row ((W.setCell ⟨g, off + i * 2, none⟩ (.int .u64 L)).setCell ⟨g, off + i * 2 + 1, none⟩ (.int .u64 H)).drew g off cc (C.take i ++ ([(L, H)] ++ C.drop (i + 1))) :=
                (HRW.out.write i [(L, H)] (by have := HNe.out; omega) (by have := HNe.out; simp; omega)).later ((Kept.refl none' _).drew) (fun h => h)
              have r1d := r1.drop j (by have := HNe.out; simp; omega)
              have e1 : (C.take i ++ ([(L, H)] ++ C.drop (i + 1))).drop j = C.drop j := by
                rw [← List.append_assoc, List.drop_append, List.drop_eq_nil_of_le (by simp; omega), List.nil_append, List.drop_drop]
                congr 1
                have := HNe.out
                simp; omega
              rw [e1] at r1d
              obtain ⟨A, hA, hnews⟩ : ∃ A : Addr, (if cc = j then some (⟨g, off, none⟩ : Addr) else some ⟨g, off + j * 2, none⟩) = some A ∧ Hid (∀ q u, (flat (C.drop j))[q]? = some u → ((W.setCell ⟨g, off + i * 2, none⟩ (.int .u64 L)).setCell ⟨g, off + i * 2 + 1, none⟩ (.int .u64 H)).drew.cell? (A.add q) = some u) := by
                by_cases h : cc = j
                · refine ⟨⟨g, off, none⟩, by simp [h], fun q u hu => ?_⟩
                  rw [List.drop_eq_nil_of_le (by have := HNe.out; omega)] at hu
                  simp [flat] at hu
                · refine ⟨⟨g, off + j * 2, none⟩, by simp [h], fun q u hu => ?_⟩
                  rw [Addr.add_lit]
                  exact flat_cells r1d q u hu
              have s1' : (flat (C.drop j)).length = (n - j) * 2 := by rw [flat_length, List.length_drop, HNe.out]
              have s1 : Hid ((flat (C.drop j)).length = (n - j) * 2) := s1'
              have s2 : Hid (∀ u ∈ flat (C.drop j), u.oneCell' = true) := flat_one _
              have s3 : Hid (∀ q, q < (flat (C.drop j)).length → (((W.setCell ⟨g, off + i * 2, none⟩ (.int .u64 L)).setCell ⟨g, off + i * 2 + 1, none⟩ (.int .u64 H)).drew.cell? ⟨g, off + (i + 1) * 2 + q, none⟩).isSome = true ∧ ((W.setCell ⟨g, off + i * 2, none⟩ (.int .u64 L)).setCell ⟨g, off + i * 2 + 1, none⟩ (.int .u64 H)).drew.frozen? ⟨g, off + (i + 1) * 2 + q, none⟩ = false) := fun q hq => by
                rw [s1.out] at hq
                rw [show off + (i + 1) * 2 + q = off + ((i + 1) * 2 + q) by omega]
                exact r1.there ((i + 1) * 2 + q) (by omega)
              obtain ⟨cX, fX⟩ : ((((W.setCell ⟨g, off + i * 2, none⟩ (.int .u64 L)).setCell ⟨g, off + i * 2 + 1, none⟩ (.int .u64 H)).drew.setCells g (off + (i + 1) * 2) (flat (C.drop j))).cell? ⟨w.heap.size + 1, 0, none⟩ = some (.slice (some ⟨g, off, none⟩) n cc) ∧ (((W.setCell ⟨g, off + i * 2, none⟩ (.int .u64 L)).setCell ⟨g, off + i * 2 + 1, none⟩ (.int .u64 H)).drew.setCells g (off + (i + 1) * 2) (flat (C.drop j))).frozen? ⟨w.heap.size + 1, 0, none⟩ = false) := by
                refine cell_one (T := 32) ?_
                rw [setCells_other g _ _ _ _ (by omega)]
                exact (Below.heap_setCell _ _ _ _ (by show w.heap.size + 1 ≠ g; omega)).trans ((Below.heap_setCell _ _ _ _ (by show w.heap.size + 1 ≠ g; omega)).trans HVA.out.v)
              clear r1 r1d e1 s1'
              have hwr : IntKind.i64.wrap ((i : Int) + 1) = (i : Int) + 1 := by rw [IntKind.wrap_i64]; omega
              have hp0 : (0 : Int) ≤ (i : Int) + 1 := by omega
              have hp1 : (i : Int) + 1 ≤ (cc : Int) := by omega
              have hp2 : ((i : Int) + 1).toNat = i + 1 := by omega
              have hj0 : (0 : Int) ≤ (j : Int) := by omega
              have hjn' : (j : Int) ≤ (n : Int) := by omega
              have hjc' : (j : Int) ≤ (cc : Int) := by omega
              go_wp2_with fail
              go_region_law (refine step_append_room rfl (.tmp 73) (.tmp 76) 32 rfl 38 i0 2 Try.underlying32 hi0 hz1 g off (i + 1) cc (by simp [Act.eval, Act.put]) A (n - j) (cc - j) (flat (C.drop j)) (by simp [Act.eval, Act.put]) s1.out hnews.out s2.out (by omega) s3.out ?_)
              all_goals
                go_wp2_with fail
                go_meet
                exact midC HC.out HBe.out HLb.out.1 HNe.out hij hjn HLb.out.2 HVA.out HRW.out HOld.out hgw _
            · obtain rfl : i = j := by omega
              have eij : ((i : Int) == (i : Int)) = true := by simp
              go_upto_region 16 with fail
              go_cut [9] (fun t wx => ∃ g off c, t = .int .i64 i ∧ Grown K sl s w L H i n C g off c wx)
              case first =>
                by_cases hCne : C = []
                · have hn0 : n = 0 := by rw [HNe.out, hCne]; rfl
                  have hao : ao = none := by
                    by_cases h : ao = none
                    · exact h
                    · exact absurd hCne (HN2.out h).2.2
                  have hcc0 : cc = 0 := HN1.out hao
                  have HCn : Hid (C = []) := hCne
                  have HN0 : Hid (n = 0) := hn0
                  have HC0 : Hid (cc = 0) := hcc0
                  have hful : cc < n + 1 := by omega
                  clear hCne hn0 hcc0 hao
                  go_wp2_with (at_builtin; refine wpList_append_grows _ rfl (.tmp 96) (.tmp 98) 32 rfl 38 i0 _ 2 16 Try.underlying32 hi0 hz0 hz1 hz2 rfl (by decide) ao n cc (flat C) rfl (fun _ => ⟨HN0.out, HC0.out⟩) (by rw [HCn.out, HN0.out]; rfl) (fun _ _ j u hu => by rw [HCn.out] at hu; simp [flat] at hu) ⟨W.heap.size, 0, none⟩ 1 1 (flat [(0, 0)]) rfl rfl (new2 W) (flat_one _) hful (by unfold maxLen; omega) (by omega) ?_)
                  intro v' w' ho' hg'
                  have hv' : w'.heap[w.heap.size + 1]? = _ := ((hg'.block _ (by have := HVA.out.far; simp; omega) (by simp)).trans (Below.heap_alloc _ _ _ (by have := HVA.out.far; omega))).trans HVA.out.v
                  obtain ⟨c', f'⟩ := cell_one hv'
                  obtain ⟨g', c', rfl, hgn⟩ := grown_new (K := K) (sl := sl) (s := s) HNe.out HVA.out ho' hg'
                  have HGN := (show Hid _ from hgn)
                  clear hv' ho' hg' hgn
                  go_wp2_with fail
                  go_meet
                  exact ⟨g', 0, c', rfl, HGN.out⟩
                · obtain ⟨hao, hrow⟩ := HR3.out hCne
                  have hcap := (HN2.out (HN3.out hCne)).2.1
                  have hrw := hrow _ HVA.out.kept
                  rw [← hcap] at hrw
                  have hgw : (sl (key s)).g < w.heap.size := (hrow w (Kept.refl _ _)).lt
                  have HOld : Hid (Old K sl s (sl (key s)).g) := ⟨by rw [← HCe.out]; exact hCne, rfl⟩
                  obtain ⟨g, hg⟩ : ∃ g, g = (sl (key s)).g := ⟨_, rfl⟩
                  obtain ⟨off, hoff⟩ : ∃ off, off = (sl (key s)).off := ⟨_, rfl⟩
                  rw [← hg, ← hoff] at hao hrw
                  rw [← hg] at hgw HOld
                  have HRW : Hid (Row W g off cc C) := hrw
                  clear hrow hg hoff hcap hrw hCne
                  subst hao
                  have hW2 : Row (W.alloc (.cells #[.int .u64 0, .int .u64 0] 38)) g off cc C := HRW.out.later ((Kept.refl none' _).alloc _) (fun h => h)
                  have HW2 := (show Hid (Row (W.alloc (.cells #[.int .u64 0, .int .u64 0] 38)) g off cc C) from hW2)
                  clear hW2
                  go_wp2_with (at_builtin; refine wpList_append_arg _ rfl (.tmp 96) (.tmp 98) 32 rfl 38 i0 _ 2 16 Try.underlying32 hi0 hz0 hz1 hz2 rfl (by decide) g off n cc (flat C) rfl (by rw [flat_length, ← HNe.out]) (flat_cells HW2.out) ⟨W.heap.size, 0, none⟩ 1 1 (flat [(0, 0)]) rfl rfl (new2 W) (flat_one _) ?sp (by unfold maxLen; omega) (by omega) ?room ?grow)
                  case sp =>
                    intro hr j hj
                    rw [show off + n * 2 + j = off + (n * 2 + j) by omega]
                    exact HW2.out.there (n * 2 + j) (by simp [flat] at hj; omega)
                  case room =>
                    intro hr
                    have hv' : ((W.alloc (.cells #[.int .u64 0, .int .u64 0] 38)).setCells g (off + n * 2) (flat [(0, 0)])).heap[w.heap.size + 1]? = some (.cells #[.slice (some ⟨g, off, none⟩) n cc] 32 (0, 0)) := by
                      rw [setCells_other g _ _ _ _ (by omega)]
                      exact (Below.heap_alloc _ _ _ (by have := HVA.out.far; omega)).trans HVA.out.v
                    obtain ⟨c', f'⟩ := cell_one hv'
                    clear hv'
                    go_wp2_with fail
                    go_meet
                    exact ⟨g, off, cc, rfl, grown_room HNe.out hr HVA.out HRW.out HOld.out hgw _⟩
                  case grow =>
                    intro hr v' w' ho' hg'
                    have hv' : w'.heap[w.heap.size + 1]? = _ := ((hg'.block _ (by have := HVA.out.far; simp; omega) (by simp)).trans (Below.heap_alloc _ _ _ (by have := HVA.out.far; omega))).trans HVA.out.v
                    obtain ⟨c', f'⟩ := cell_one hv'
                    obtain ⟨g', c', rfl, hgn⟩ := grown_new (K := K) (sl := sl) (s := s) HNe.out HVA.out ho' hg'
                    have HGN := (show Hid _ from hgn)
                    clear hv' ho' hg' hgn
                    go_wp2_with fail
                    go_meet
                    exact ⟨g', 0, c', rfl, HGN.out⟩
              case rest =>
                obtain ⟨g, off, c, rfl, hgrn⟩ := hcut
                obtain ⟨X, hXe⟩ : ∃ X, X = wc := ⟨_, rfl⟩
                rw [← hXe] at hgrn ⊢
                clear hXe wc cv0 cv1 fv0 fv1 cs fs ci fi HVA
                obtain ⟨cv0, cv1, fv⟩ := cell_struct hgrn.sv
                have fv0 := fv 0
                have fv1 := fv 1
                obtain ⟨cs, fs⟩ := cell_one hgrn.v
                obtain ⟨ci, fi⟩ := cell_one hgrn.iv
                clear fv
                have hcap : n + 1 ≤ c := by obtain ⟨_, _, _, h, _⟩ := hgrn.row; simpa [HNe.out] using h
                have hgv : g ≠ w.heap.size := by rcases hgrn.far with h | h <;> omega
                have hgv1 : g ≠ w.heap.size + 1 := by rcases hgrn.far with h | h <;> omega
                have hgv2 : g ≠ w.heap.size + 1 + 1 := by rcases hgrn.far with h | h <;> omega
                have r0 : Row X.drew g off c (C ++ [(0, 0)]) := hgrn.row.later ((Kept.refl none' _).drew) (fun h => h)
                have s1' : (flat (C.drop i)).length = Nat.min (n + 1 - i) (n + 1 - (i + 1)) * 2 := by
                  rw [flat_length, List.length_drop, ← HNe.out, show Nat.min (n + 1 - i) (n + 1 - (i + 1)) = n - i from Nat.min_eq_right (by omega) |>.trans (by omega)]
                have s1 : Hid ((flat (C.drop i)).length = Nat.min (n + 1 - i) (n + 1 - (i + 1)) * 2) := s1'
                have s2 : Hid (∀ q u, (flat (C.drop i))[q]? = some u → X.drew.cell? ((⟨g, off + i * 2, none⟩ : Addr).add q) = some u) := fun q u hu => by
                  rw [Addr.add_lit]
                  have r' := (r0.drop i (by have := HNe.out; simp; omega)).take (n - i)
                  rw [show ((C ++ [((0 : Int), (0 : Int))]).drop i).take (n - i) = C.drop i by
                    rw [List.drop_append_of_le_length (by have := HNe.out; omega), List.take_append_of_le_length (by have := HNe.out; simp; omega)]
                    exact List.take_of_length_le (by have := HNe.out; simp; omega)] at r'
                  exact flat_cells r' q u hu
                obtain ⟨oA, hA, hA2⟩ : ∃ oA : Nat, (if c = i + 1 then some (⟨g, off, none⟩ : Addr) else some ⟨g, off + (i + 1) * 2, none⟩) = some ⟨g, oA, none⟩ ∧ Hid (X.drew.setCells g oA (flat (C.drop i)) = X.drew.setCells g (off + (i + 1) * 2) (flat (C.drop i)) ∧ ∀ q, q < (flat (C.drop i)).length → (X.drew.cell? ⟨g, oA + q, none⟩).isSome = true ∧ X.drew.frozen? ⟨g, oA + q, none⟩ = false) := by
                  by_cases h : c = i + 1
                  · refine ⟨off, by simp [h], ?_⟩
                    have e : C.drop i = [] := List.drop_eq_nil_of_le (by have := HNe.out; omega)
                    exact ⟨by rw [e]; rfl, fun q hq => by rw [e] at hq; simp [flat] at hq⟩
                  · refine ⟨off + (i + 1) * 2, by simp [h], ⟨rfl, fun q hq => ?_⟩⟩
                    rw [flat_length, List.length_drop, ← HNe.out] at hq
                    rw [show off + (i + 1) * 2 + q = off + ((i + 1) * 2 + q) by omega]
                    exact r0.there ((i + 1) * 2 + q) (by omega)
                have HX : Hid (∀ k, k ≠ g → (X.drew.setCells g oA (flat (C.drop i))).heap[k]? = X.heap[k]?) := fun k hk => setCells_other g _ _ _ _ hk
                have hwr : IntKind.i64.wrap ((i : Int) + 1) = (i : Int) + 1 := by rw [IntKind.wrap_i64]; omega
                have hp0 : (0 : Int) ≤ (i : Int) + 1 := by omega
                have hp1 : (i : Int) + 1 ≤ (n : Int) + 1 := by omega
                have hp2 : ((i : Int) + 1).toNat = i + 1 := by omega
                have hj0 : (0 : Int) ≤ (i : Int) := by omega
                have hjn' : (i : Int) ≤ (n : Int) + 1 := by omega
                have hci : ¬ c = i := by omega
                have HG := (show Hid (Grown K sl s w L H i n C g off c X) from hgrn)
                obtain ⟨yv0, yv1, yfv⟩ := cell_struct ((HX.out _ hgv.symm).trans hgrn.sv)
                have yfv0 := yfv 0
                have yfv1 := yfv 1
                obtain ⟨ys, yfs⟩ := cell_one ((HX.out _ hgv1.symm).trans hgrn.v)
                obtain ⟨yi, yfi⟩ := cell_one ((HX.out _ hgv2.symm).trans hgrn.iv)
                have r1 := r0.write (i + 1) (C.drop i) (by have := HNe.out; simp; omega) (by have := HNe.out; simp; omega)
                rw [← hA2.out.1] at r1
                have t0 := r1.there (i * 2) (by omega)
                have t1 := r1.there (i * 2 + 1) (by omega)
                rw [← Nat.add_assoc] at t1
                obtain ⟨t0c, t0f⟩ := t0
                obtain ⟨t1c, t1f⟩ := t1
                obtain ⟨z0, t0c⟩ := Option.isSome_iff_exists.1 t0c
                obtain ⟨z1, t1c⟩ := Option.isSome_iff_exists.1 t1c
                have hin1 : (i : Int) < (n : Int) + 1 := by omega
                clear r0 s1' hgrn yfv r1
                go_upto_region 17 with fail
                go_region_law (refine step_copy_wide rfl (.tmp 103) (.tmp 106) 32 32 rfl 38 Try.underlying32 2 (by rw [hi0, Option.map_some, hz1]) g oA (n + 1 - (i + 1)) (c - (i + 1)) ⟨g, off + i * 2, none⟩ (n + 1 - i) (c - i) (by simp [Act.eval, Act.put]) (by simp [Act.eval, Act.put]) (flat (C.drop i)) s1.out s2.out hA2.out.2 (flat_one _) ?_)
                all_goals
                  go_wp2_with fail
                  go_meet
                  rw [hA2.out.1]
                  exact midB HC.out HBe.out HLb.out.1 HNe.out hin HLb.out.2 HG.out _
        case rest =>
          obtain ⟨V, mb', D', g, off, c, rfl, hmid⟩ := hcut
          obtain ⟨cV, _⟩ := cell_one hmid.v
          go_wp2_with fail
          refine (mid_call hs (by unfold maxLen; omega) HC.out HNL.out.1 hmid).mono ?_
          rintro e w' ⟨rfl, hkp, hck⟩
          go_wp2_with fail
          go_end0
          exact ⟨rfl, hkp, _, HNL.out.1, by rw [← rng_bs_cl (HC.out.canon (key s)), ← HBe.out, ← HCe.out]; exact HNL.out.2.1, by rw [← rng_bs_cl (HC.out.canon (key s)), ← HBe.out, ← HCe.out]; exact HNL.out.2.2.1, hck⟩
end Go.Proofs.Qxb6630298a
