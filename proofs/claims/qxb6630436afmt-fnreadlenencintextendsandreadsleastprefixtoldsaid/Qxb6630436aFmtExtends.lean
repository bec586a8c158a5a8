/-
  THE WALK OF THE LAW 'FnReadLenencIntExtendsAndReadsLeastPrefix'.
-/
import Derived.Test.Qxb6630436aFmtAgrees
import Derived.Deep.DeepCutAuto
import Derived.Deep.QuietTactic
import Derived.BigQuiet
namespace Go.Proofs.Qxb6630436aFmt
open Go.Extern.Stop Go.Stop Go.Extern Go.RowKit

/-- What holds of an argument behind its copy: the same bytes, somewhere. -/
def Held (w0 : World) (len : Nat) (zs : List Int) (t : Value) (w : World) : Prop := ∃ a cap, t = .slice a len cap ∧ len ≤ cap ∧ (a = none → len = 0 ∧ cap = 0) ∧ Bs w a len zs ∧ Below w0.heap.size w0 w

/-- What ReadLenencInt reads. -/
def rl : List Int → Option (Int × Int)
  | [] => none
  | z :: r => if z < 251 then some (z, 1) else if wid z < 0 then none else if (r.length : Int) < wid z then none else some (le (r.take (wid z).toNat), 1 + wid z)

theorem rl_any (F : Interp) (a : Option Addr) (len cap : Nat) (zs : List Int) (T : TypeId) (v : Value) (w : World) (hF : F.answers w.tape) (hg : w.cell? ⟨0, 0, none⟩ = some (.iface T v)) (hB : Bs w a len zs) (hcap : len ≤ cap) (hm : len ≤ 1048576) :
    Calls Tryf.prog 6 #[.slice a len cap] w fun e w' =>
      (rl zs = none ∧ ∃ a, e = .returned (.tuple #[.int .u64 0, .int .i64 0, .iface 39 (.pointer (some a))]) ∧ Below w.heap.size w w') ∨
      (∃ x n, rl zs = some (x, n) ∧ e = .returned (.tuple #[.int .u64 x, .int .i64 n, .nilIface]) ∧ w' = w) := by
  cases zs with
  | nil =>
    obtain rfl : len = 0 := by have := hB.hlen; simpa using this.symm
    exact (rl_nil a cap T v w hg).mono fun e w' h => .inl ⟨rfl, h⟩
  | cons z r =>
    have hlr : r.length + 1 = len := by have := hB.hlen; simpa using this
    obtain ⟨b, off, rfl, _, hc⟩ := hB.lie (by omega)
    have hz := hB.byte z (by simp)
    have cz : w.cell? ⟨b, off, none⟩ = some (.int .u8 z) := by have := hc 0 (by omega); simpa using this
    have cr : ∀ i, i < r.length → w.cell? ⟨b, off + 1 + i, none⟩ = some (.int .u8 (r.getD i 0)) := fun i hi => by
      have := hc (1 + i) (by omega)
      rw [show off + 1 + i = off + (1 + i) by omega, this]
      congr 2; rw [Nat.add_comm]; simp [List.getD]
    by_cases hs : z < 251
    · exact (rl_small b off len cap z w (by omega) hz.1 hs cz).mono fun e w' h => .inr ⟨z, 1, by simp [rl, hs], h.1, h.2⟩
    · by_cases hbad : z = 251 ∨ z = 255
      · have hw : wid z = -1 := by rcases hbad with rfl | rfl <;> rfl
        exact (rl_bad F b off len cap z w hF (by omega) hbad cz).mono fun e w' h => .inl ⟨by simp [rl, hs, hw], h⟩
      · obtain ⟨n, hn⟩ : ∃ n : Nat, z = 252 ∧ n = 2 ∨ z = 253 ∧ n = 3 ∨ z = 254 ∧ n = 8 := by
          rcases (by omega : z = 252 ∨ z = 253 ∨ z = 254) with rfl | rfl | rfl
          · exact ⟨2, by simp⟩
          · exact ⟨3, by simp⟩
          · exact ⟨8, by simp⟩
        have hw : wid z = n := by rcases hn with ⟨rfl, rfl⟩ | ⟨rfl, rfl⟩ | ⟨rfl, rfl⟩ <;> rfl
        by_cases hl : len ≤ n
        · exact (rl_short F b off len cap z n T v w hF hg (by omega) hn hl cz).mono fun e w' h => .inl ⟨by simp only [rl, hs, hw, if_false]; rw [if_neg (by omega), if_pos (by omega)], h⟩
        · exact (rl_ok b off len cap z n r w hn (by omega) hm hcap hlr hB.byte.tail cz cr).mono fun e w' h => .inr ⟨_, _, by simp only [rl, hs, hw, if_false]; rw [if_neg (by omega), if_neg (by omega)]; simp, h.1, h.2⟩

/-- What an append of the bytes asks of them. -/
theorem Bs.news {w : World} {a : Option Addr} {len : Nat} {zs : List Int} (h : Bs w a len zs) : ∀ ad, a = some ad → ∀ j u, (zs.map (Value.int .u8))[j]? = some u → w.cell? (ad.add j) = some u := by
  intro ad had j u hj
  have hjl : j < zs.length := by simpa using (List.getElem?_eq_some_iff.1 hj).1
  obtain ⟨_, ad', had', hc⟩ := h.src (some ⟨0, 0, none⟩) 0 rfl (by simp; omega)
  rw [had] at had'
  cases had'
  exact hc j u hj
/-- A row that the call made, as the walks are told of it. -/
theorem bs_row {w : World} {base g n cap : Nat} {zs : List Int} (h : w.ownsRow base 5 1 (.slice (some ⟨g, 0, none⟩) n cap) n (zs.map (Value.int .u8))) (hl : zs.length = n) (hB : Bytes zs) : Bs w (some ⟨g, 0, none⟩) n zs :=
  ⟨hl, hB, fun h0 => ⟨g, 0, rfl, (h.lt g rfl).2, fun i hi => by
    rw [Nat.zero_add, h.cellAt i (by omega)]; simp [List.getD, show i < zs.length by omega]⟩⟩
theorem Bytes.append {a b : List Int} (ha : Bytes a) (hb : Bytes b) : Bytes (a ++ b) := fun z hz => by
  rcases List.mem_append.1 hz with h | h
  · exact ha z h
  · exact hb z h

theorem rl_zero (a : Option Addr) (len cap : Nat) (T : TypeId) (v : Value) (w : World) (h : len = 0) (hg : w.cell? ⟨0, 0, none⟩ = some (.iface T v)) :
    Calls Tryf.prog 6 #[.slice a len cap] w fun e w' => ∃ a, e = .returned (.tuple #[.int .u64 0, .int .i64 0, .iface 39 (.pointer (some a))]) ∧ Below w.heap.size w w' := by
  subst h; exact rl_nil a cap T v w hg

theorem Bs.cons {w : World} {b off len : Nat} {z : Int} {r : List Int} (h : Bs w (some ⟨b, off, none⟩) len (z :: r)) :
    r.length + 1 = len ∧ w.cell? ⟨b, off, none⟩ = some (.int .u8 z) ∧ (∀ i, i < r.length → w.cell? ⟨b, off + 1 + i, none⟩ = some (.int .u8 (r.getD i 0))) ∧ (∀ i, i < len → w.cell? ⟨b, off + i, none⟩ = some (.int .u8 ((z :: r).getD i 0))) := by
  have hlr : r.length + 1 = len := by have := h.hlen; simpa using this
  obtain ⟨b', off', ha, _, hc⟩ := h.lie (by omega)
  simp only [Option.some.injEq, Addr.mk.injEq, and_true] at ha
  obtain ⟨rfl, rfl⟩ := ha
  refine ⟨hlr, by have := hc 0 (by omega); simpa using this, fun i hi => ?_, hc⟩
  have := hc (1 + i) (by omega)
  rw [show off + 1 + i = off + (1 + i) by omega, this]
  congr 2; rw [Nat.add_comm]; simp [List.getD]

set_option maxRecDepth 100000 in
set_option maxHeartbeats 16000000 in
theorem ext_all (F : Interp) (ab ac : Option Addr) (lb cb lc cc : Nat) (zb zc : List Int) (T : TypeId) (v : Value) (w : World) (hF : F.answers w.tape) (hg : w.cell? ⟨0, 0, none⟩ = some (.iface T v)) (hB : Bs w ab lb zb) (hC : Bs w ac lc zc)
    (hnb : ab = none → lb = 0 ∧ cb = 0) (hnc : ac = none → lc = 0 ∧ cc = 0) (hm : lb + lc ≤ 1048576) :
    Calls Tryf.prog 3 #[.slice ab lb cb, .slice ac lc cc] w fun e w' => e = .returned (.bool true) ∧ Below w.heap.size w w' := by
  obtain ⟨i0, hi, hz0, hz1, hz2⟩ := info_parts info5
  have HB := (show Hid _ from hB)
  have HC := (show Hid _ from hC)
  have HNB := (show Hid _ from hnb)
  have HNC := (show Hid _ from hnc)
  have HT := (show Hid _ from bytesE_true ab ac lb cb lc cc w hm)
  clear hB hC hnb hnc
  go_enter Tryf.func3, Tryf.ntmps3
  go_upto_if 39 with (go_at_call 5; refine Calls.mono HT ?_; rintro e w0 ⟨rfl, rfl⟩)
  go_cut [0] (fun t wx => Held w0 lb zb t wx)
  case first =>
    obtain hnb | ⟨x, hxb⟩ : ab = none ∨ ∃ x, ab = some x := by cases ab <;> simp
    · obtain ⟨hl0, hc0⟩ := HNB.out hnb
      subst hnb hl0 hc0
      go_wp2_with fail
      go_meet
      exact ⟨none, 0, rfl, Nat.le_refl _, fun _ => ⟨rfl, rfl⟩, HB.out, Below.refl _ _⟩
    · subst hxb
      obtain ⟨cs, hcs⟩ : ∃ cs, cs = zb.map (Value.int .u8) := ⟨_, rfl⟩
      have HCS : Hid (cs = zb.map (Value.int .u8)) := hcs
      clear hcs
      go_wp2_with (at_make; refine wpList_make_full _ rfl _ _ 22 rfl w0.heap.size 5 i0 _ 1 Tryf.underlying22 hi hz0 hz1 _ _ _ _ lb rfl rfl ?c1b ?c2b ?c3b ?c4b ?c5b ?_)
      case c1b => rfl
      case c2b => rfl
      case c3b => rw [hz2]; omega
      case c4b => unfold maxLen; omega
      case c5b => exact Nat.le_refl _
      intro w8 ho8 hg8
      have hb8 : Below w0.heap.size w0 w8 := (Below.refl _ _).grown hg8 (Nat.le_refl _) (by simp)
      obtain ⟨cur, hcl, hcur⟩ := made_row ho8
      have HCL : Hid (cur.length = lb) := hcl
      have HB8 := (show Hid _ from HB.out.later hb8)
      have HCUR := (show Hid _ from hcur)
      clear ho8 hg8 hcl hcur
      go_wp2_with (refine wpList_copy_splice rfl (.tmp 43) (.tmp 44) 22 22 rfl 5 Tryf.underlying22 size5 _ _ _ _ _ _ rfl rfl w0.heap.size 0 cur 5 HCUR.out cs ?d1b ?d2b ?d3b ?d4b w0.heap.size w0 hb8 (Nat.le_refl _) ?_)
      case d1b => rw [HCS.out]; have := HB8.out.hlen; simp at this ⊢; omega
      case d2b => rw [HCS.out]; intro h0; obtain ⟨_, ad, had, h⟩ := HB8.out.src _ w0.heap.size rfl h0; cases had; exact h
      case d3b => rw [HCS.out]; have h1 := HB8.out.hlen; have h2 := HCL.out; simp at h1 ⊢; omega
      case d4b => rw [HCS.out]; exact bytes_one _
      intro w9 HG9 hb9
      have hB9 : Bs w9 (some ⟨w0.heap.size, 0, none⟩) lb zb := by
        have h := HG9.out
        rw [splice_all cur cs (by rw [HCS.out, HCL.out]; have := HB8.out.hlen; simpa using this), HCS.out] at h
        have h2 := row_bytes h HB8.out.byte
        rw [HB8.out.hlen] at h2
        exact h2
      clear HG9 HCL HB8 HCUR HCS hb8
      go_wp2_with fail
      go_meet
      exact ⟨_, _, rfl, Nat.le_refl _, (fun h => by cases h), hB9, hb9⟩
  case rest =>
    obtain ⟨ab1, cb1, rfl, hcb1, hnb1, hB1, hb1⟩ := hcut
    have HNB1 := (show Hid _ from hnb1)
    clear hnb1
    obtain ⟨w1, hw1⟩ : ∃ w1, w1 = wc := ⟨_, rfl⟩
    rw [← hw1] at hB1 hb1 ⊢
    clear hw1 HB HNB HT
    have HB1 := (show Hid _ from hB1)
    have HC1 := (show Hid _ from HC.out.later hb1)
    clear hB1 HC wc
    go_upto_if 48 with fail
    go_cut [1] (fun t wx => Held w1 lc zc t wx)
    case first =>
      obtain hnc | ⟨x, hxc⟩ : ac = none ∨ ∃ x, ac = some x := by cases ac <;> simp
      · obtain ⟨hl0, hc0⟩ := HNC.out hnc
        subst hnc hl0 hc0
        go_wp2_with fail
        go_meet
        exact ⟨none, 0, rfl, Nat.le_refl _, fun _ => ⟨rfl, rfl⟩, HC1.out, Below.refl _ _⟩
      · subst hxc
        obtain ⟨cs, hcs⟩ : ∃ cs, cs = zc.map (Value.int .u8) := ⟨_, rfl⟩
        have HCS : Hid (cs = zc.map (Value.int .u8)) := hcs
        clear hcs
        go_wp2_with (at_make; refine wpList_make_full _ rfl _ _ 22 rfl w1.heap.size 5 i0 _ 1 Tryf.underlying22 hi hz0 hz1 _ _ _ _ lc rfl rfl ?c1c ?c2c ?c3c ?c4c ?c5c ?_)
        case c1c => rfl
        case c2c => rfl
        case c3c => rw [hz2]; omega
        case c4c => unfold maxLen; omega
        case c5c => exact Nat.le_refl _
        intro w8 ho8 hg8
        have hb8 : Below w1.heap.size w1 w8 := (Below.refl _ _).grown hg8 (Nat.le_refl _) (by simp)
        obtain ⟨cur, hcl, hcur⟩ := made_row ho8
        have HCL : Hid (cur.length = lc) := hcl
        have HB8 := (show Hid _ from HC1.out.later hb8)
        have HCUR := (show Hid _ from hcur)
        clear ho8 hg8 hcl hcur
        go_wp2_with (refine wpList_copy_splice rfl (.tmp 52) (.tmp 53) 22 22 rfl 5 Tryf.underlying22 size5 _ _ _ _ _ _ rfl rfl w1.heap.size 0 cur 5 HCUR.out cs ?d1c ?d2c ?d3c ?d4c w1.heap.size w1 hb8 (Nat.le_refl _) ?_)
        case d1c => rw [HCS.out]; have := HB8.out.hlen; simp at this ⊢; omega
        case d2c => rw [HCS.out]; intro h0; obtain ⟨_, ad, had, h⟩ := HB8.out.src _ w1.heap.size rfl h0; cases had; exact h
        case d3c => rw [HCS.out]; have h1 := HB8.out.hlen; have h2 := HCL.out; simp at h1 ⊢; omega
        case d4c => rw [HCS.out]; exact bytes_one _
        intro w9 HG9 hb9
        have hB9 : Bs w9 (some ⟨w1.heap.size, 0, none⟩) lc zc := by
          have h := HG9.out
          rw [splice_all cur cs (by rw [HCS.out, HCL.out]; have := HB8.out.hlen; simpa using this), HCS.out] at h
          have h2 := row_bytes h HB8.out.byte
          rw [HB8.out.hlen] at h2
          exact h2
        clear HG9 HCL HB8 HCUR HCS hb8
        go_wp2_with fail
        go_meet
        exact ⟨_, _, rfl, Nat.le_refl _, (fun h => by cases h), hB9, hb9⟩
    case rest =>
      obtain ⟨ac1, cc1, rfl, hcc1, hnc1, hC2, hb2⟩ := hcut
      have HNC1 := (show Hid _ from hnc1)
      clear hnc1
      obtain ⟨w2, hw2⟩ : ∃ w2, w2 = wc := ⟨_, rfl⟩
      rw [← hw2] at hC2 hb2 ⊢
      clear hw2 HC1 HNC
      have hB2 := HB1.out.later hb2
      have hbel := hb1.trans (hb2.mono hb1.size)
      have hF2 : F.answers w2.tape := by rw [hbel.tape]; exact hF
      have hg2 : w2.cell? ⟨0, 0, none⟩ = some (.iface T v) := cell_later hbel hg
      clear HB1 hb1 hb2 hF hg wc
      have HB2 := (show Hid _ from hB2)
      have HC2 := (show Hid _ from hC2)
      clear hB2 hC2
      obtain hz | ⟨z, r, hz⟩ : zb = [] ∨ ∃ z r, zb = z :: r := by cases zb <;> simp
      · -- b is empty
        have HE : Hid (lb = 0) := by have := HB2.out.hlen; rw [hz] at this; exact this.symm
        have HZ : Hid (zb = []) := hz
        clear hz
        go_wp2_with fail
        refine (rl_zero ab1 lb cb1 T v w2 HE.out hg2).mono ?_
        rintro e w3 ⟨eb, rfl, hb3⟩
        have HB3 := (show Hid _ from HB2.out.later hb3)
        have HC3 := (show Hid _ from HC2.out.later hb3)
        have hF3 : F.answers w3.tape := by rw [hb3.tape]; exact hF2
        have hg3 := cell_later hb3 hg2
        have hbel3 := hbel.trans (hb3.mono hbel.size)
        clear HB2 HC2 hb3 hF2 hg2 hbel
        obtain ⟨nb, hnbe⟩ : ∃ nb, nb = (zb).map (Value.int .u8) := ⟨_, rfl⟩
        have HNBE : Hid (nb = (zb).map (Value.int .u8)) := hnbe
        obtain ⟨nc, hnce⟩ : ∃ nc, nc = zc.map (Value.int .u8) := ⟨_, rfl⟩
        have HNCE : Hid (nc = zc.map (Value.int .u8)) := hnce
        clear hnbe hnce
        go_wp2_with (at_make; refine wpList_make_own _ rfl _ (.tmp 66) 22 rfl w3.heap.size 5 i0 _ 1 Tryf.underlying22 hi hz0 hz1 _ _ _ (lb + lc) rfl rfl (by omega) (by rw [hz2]; omega) (by unfold maxLen; omega) (Nat.le_refl _) ?_)
        intro wa hoa hga
        have hbela : Below w3.heap.size w3 wa := (Below.refl _ _).grown hga (Nat.le_refl _) (by simp)
        have HBa := (show Hid _ from HB3.out.later hbela)
        have HCa := (show Hid _ from HC3.out.later hbela)
        clear hga
        go_wp2_with (at_builtin; refine wpList_append_fits_any _ rfl (.tmp 68) (.tmp 69) 22 rfl w3.heap.size 5 i0 1 Tryf.underlying22 hi hz1 w3.heap.size 0 (lb + lc) [] rfl hoa ab1 lb cb1 nb rfl (by rw [HNBE.out]; have := HBa.out.hlen; simpa using this) HNB1.out (by rw [HNBE.out]; exact HBa.out.news) (by rw [HNBE.out]; exact bytes_one _) (by omega) ?_)
        intro wb hob hgb
        have hbelb : Below w3.heap.size w3 wb := hbela.grown hgb hbela.size (by simp)
        have HCb := (show Hid _ from HC3.out.later hbelb)
        clear hgb hoa hbela HBa HCa
        go_wp2_with (at_builtin; refine wpList_append_fits_any _ rfl (.tmp 71) (.tmp 72) 22 rfl w3.heap.size 5 i0 1 Tryf.underlying22 hi hz1 w3.heap.size lb (lb + lc) nb rfl hob ac1 lc cc1 nc rfl (by rw [HNCE.out]; have := HCb.out.hlen; simpa using this) HNC1.out (by rw [HNCE.out]; exact HCb.out.news) (by rw [HNCE.out]; exact bytes_one _) (by omega) ?_)
        intro wj hoj hgj
        have hbelj : Below w3.heap.size w3 wj := hbelb.grown hgj hbelb.size (by simp)
        have HJ : Hid (Bs wj (some ⟨w3.heap.size, 0, none⟩) (lb + lc) (zb ++ zc)) := by
          rw [HNBE.out, HNCE.out, ← List.map_append] at hoj
          exact bs_row hoj (by rw [List.length_append, HB3.out.hlen, HC3.out.hlen]) (HB3.out.byte.append HC3.out.byte)
        have HBj := (show Hid _ from HB3.out.later hbelj)
        have HCj := (show Hid _ from HC3.out.later hbelj)
        clear hgj hoj hob hbelb HCb HNBE HNCE HB3 HC3
        have hFj : F.answers wj.tape := by rw [hbelj.tape]; exact hF3
        have hgvj : wj.cell? ⟨0, 0, none⟩ = some (.iface T v) := cell_later hbelj hg3
        have hbel := hbel3.trans (hbelj.mono hbel3.size)
        clear hbelj hF3 hg3 hbel3
        have e0 : ((lb : Int) == 0) = true := by have := HE.out; simp; omega
        go_wp2_with fail
        refine (rl_any F _ _ _ _ T v wj hFj hgvj HJ.out (Nat.le_refl _) hm).mono ?_
        rintro e w4 hR
        rw [HZ.out, List.nil_append] at hR
        rcases hR with ⟨ho, ea, rfl, hb4⟩ | ⟨x, n, ho, rfl, hw4⟩
        · have HO : Hid (rl zc = none) := ho
          have HC4 := (show Hid _ from HCj.out.later hb4)
          have hF4 : F.answers w4.tape := by rw [hb4.tape]; exact hFj
          have hg4 := cell_later hb4 hgvj
          have hbel4 := hbel.trans (hb4.mono hbel.size)
          clear ho HBj HCj HJ hb4 hFj hgvj hbel
          go_wp2_with fail
          refine (rl_any F ac1 lc cc1 zc T v w4 hF4 hg4 HC4.out hcc1 (by omega)).mono ?_
          rintro e w5 hR
          rw [HO.out] at hR
          rcases hR with ⟨_, ec, rfl, hb5⟩ | ⟨x, n, ho, _⟩
          · have hbel5 := hbel4.trans (hb5.mono hbel4.size)
            clear hb5 hbel4 HC4
            go_wp2_with fail
            go_quiet (fail)
            go_wp2
            go_ret
            exact ⟨rfl, below_drewN hbel5 _⟩
          · cases ho
        · have HO : Hid (rl zc = some (x, n)) := ho
          rw [hw4]
          clear ho HBj HJ hw4
          go_wp2_with fail
          refine (rl_any F ac1 lc cc1 zc T v wj hFj hgvj HCj.out hcc1 (by omega)).mono ?_
          rintro e w5 hR
          rw [HO.out] at hR
          rcases hR with ⟨ho, _⟩ | ⟨x', n', ho, rfl, hw5⟩
          · cases ho
          · cases ho
            rw [hw5]
            clear HCj hw5
            go_wp2_with fail
            go_quiet (fail)
            go_wp2
            go_ret
            exact ⟨rfl, below_drewN hbel _⟩
      · -- b has a first byte
        subst hz
        obtain ⟨b, off, hab, hbw, _⟩ := HB2.out.lie (by have := HB2.out.hlen; simp at this; omega)
        subst hab
        have hlr := HB2.out.cons.1
        have hzb := HB2.out.byte z (by simp)
        have hl0 : 0 < lb := by omega
        have e0 : ((lb : Int) == 0) = false := by simp; omega
        clear hbw
        by_cases hs : z < 251
        · have hz0b := hzb.1
          clear hzb hlr
          go_wp2_with fail
          refine (rl_small b off lb cb1 z w2 hl0 hz0b hs HB2.out.cons.2.1).mono ?_
          rintro e w3 ⟨rfl, hw3⟩
          subst hw3
          have HB3 := HB2
          have HC3 := HC2
          have hF3 := hF2
          have hg3 := hg2
          have hbel3 := hbel
          clear HB2 HC2 hF2 hg2 hbel
          obtain ⟨nb, hnbe⟩ : ∃ nb, nb = (z :: r).map (Value.int .u8) := ⟨_, rfl⟩
          have HNBE : Hid (nb = (z :: r).map (Value.int .u8)) := hnbe
          obtain ⟨nc, hnce⟩ : ∃ nc, nc = zc.map (Value.int .u8) := ⟨_, rfl⟩
          have HNCE : Hid (nc = zc.map (Value.int .u8)) := hnce
          clear hnbe hnce
          go_wp2_with (at_make; refine wpList_make_own _ rfl _ (.tmp 66) 22 rfl w3.heap.size 5 i0 _ 1 Tryf.underlying22 hi hz0 hz1 _ _ _ (lb + lc) rfl rfl (by omega) (by rw [hz2]; omega) (by unfold maxLen; omega) (Nat.le_refl _) ?_)
          intro wa hoa hga
          have hbela : Below w3.heap.size w3 wa := (Below.refl _ _).grown hga (Nat.le_refl _) (by simp)
          have HBa := (show Hid _ from HB3.out.later hbela)
          have HCa := (show Hid _ from HC3.out.later hbela)
          clear hga
          go_wp2_with (at_builtin; refine wpList_append_fits_any _ rfl (.tmp 68) (.tmp 69) 22 rfl w3.heap.size 5 i0 1 Tryf.underlying22 hi hz1 w3.heap.size 0 (lb + lc) [] rfl hoa (some ⟨b, off, none⟩) lb cb1 nb rfl (by rw [HNBE.out]; have := HBa.out.hlen; simpa using this) HNB1.out (by rw [HNBE.out]; exact HBa.out.news) (by rw [HNBE.out]; exact bytes_one _) (by omega) ?_)
          intro wb hob hgb
          have hbelb : Below w3.heap.size w3 wb := hbela.grown hgb hbela.size (by simp)
          have HCb := (show Hid _ from HC3.out.later hbelb)
          clear hgb hoa hbela HBa HCa
          go_wp2_with (at_builtin; refine wpList_append_fits_any _ rfl (.tmp 71) (.tmp 72) 22 rfl w3.heap.size 5 i0 1 Tryf.underlying22 hi hz1 w3.heap.size lb (lb + lc) nb rfl hob ac1 lc cc1 nc rfl (by rw [HNCE.out]; have := HCb.out.hlen; simpa using this) HNC1.out (by rw [HNCE.out]; exact HCb.out.news) (by rw [HNCE.out]; exact bytes_one _) (by omega) ?_)
          intro wj hoj hgj
          have hbelj : Below w3.heap.size w3 wj := hbelb.grown hgj hbelb.size (by simp)
          have HJ : Hid (Bs wj (some ⟨w3.heap.size, 0, none⟩) (lb + lc) (z :: r ++ zc)) := by
            rw [HNBE.out, HNCE.out, ← List.map_append] at hoj
            exact bs_row hoj (by rw [List.length_append, HB3.out.hlen, HC3.out.hlen]) (HB3.out.byte.append HC3.out.byte)
          have HBj := (show Hid _ from HB3.out.later hbelj)
          have HCj := (show Hid _ from HC3.out.later hbelj)
          clear hgj hoj hob hbelb HCb HNBE HNCE HB3 HC3
          have hFj : F.answers wj.tape := by rw [hbelj.tape]; exact hF3
          have hgvj : wj.cell? ⟨0, 0, none⟩ = some (.iface T v) := cell_later hbelj hg3
          have hbel := hbel3.trans (hbelj.mono hbel3.size)
          clear hbelj hF3 hg3 hbel3
          have cj := HJ.out.cons.2.1
          have cb := HBj.out.cons.2.1
          clear HJ HBj HCj
          go_wp2_with fail
          refine (rl_small w3.heap.size 0 (lb + lc) (lb + lc) z wj (by omega) hz0b hs cj).mono ?_
          rintro e w4 ⟨rfl, hw4⟩
          rw [hw4]
          clear hw4
          go_wp2_with fail
          refine (width_any z _ (by omega) (by omega)).mono ?_
          rintro e w4 ⟨rfl, hw4⟩
          rw [hw4, show wid z = 0 from if_pos hs]
          clear hw4
          go_wp2_with fail
          refine (rl_small b off 1 cb1 z wj (by omega) hz0b hs cb).mono ?_
          rintro e w4 ⟨rfl, hw4⟩
          rw [hw4]
          clear hw4
          go_wp2_with fail
          go_ret
          exact ⟨rfl, hbel⟩
        by_cases hbad : z = 251 ∨ z = 255
        · have HW : Hid (wid z = -1) := by rcases hbad with rfl | rfl <;> rfl
          have HBD := (show Hid _ from hbad)
          clear hlr hbad
          go_wp2_with fail
          refine (rl_bad F b off lb cb1 z w2 hF2 hl0 HBD.out HB2.out.cons.2.1).mono ?_
          rintro e w3 ⟨eb, rfl, hb3⟩
          have HB3 := (show Hid _ from HB2.out.later hb3)
          have HC3 := (show Hid _ from HC2.out.later hb3)
          have hF3 : F.answers w3.tape := by rw [hb3.tape]; exact hF2
          have hg3 := cell_later hb3 hg2
          have hbel3 := hbel.trans (hb3.mono hbel.size)
          clear HB2 HC2 hb3 hF2 hg2 hbel
          obtain ⟨nb, hnbe⟩ : ∃ nb, nb = (z :: r).map (Value.int .u8) := ⟨_, rfl⟩
          have HNBE : Hid (nb = (z :: r).map (Value.int .u8)) := hnbe
          obtain ⟨nc, hnce⟩ : ∃ nc, nc = zc.map (Value.int .u8) := ⟨_, rfl⟩
          have HNCE : Hid (nc = zc.map (Value.int .u8)) := hnce
          clear hnbe hnce
          go_wp2_with (at_make; refine wpList_make_own _ rfl _ (.tmp 66) 22 rfl w3.heap.size 5 i0 _ 1 Tryf.underlying22 hi hz0 hz1 _ _ _ (lb + lc) rfl rfl (by omega) (by rw [hz2]; omega) (by unfold maxLen; omega) (Nat.le_refl _) ?_)
          intro wa hoa hga
          have hbela : Below w3.heap.size w3 wa := (Below.refl _ _).grown hga (Nat.le_refl _) (by simp)
          have HBa := (show Hid _ from HB3.out.later hbela)
          have HCa := (show Hid _ from HC3.out.later hbela)
          clear hga
          go_wp2_with (at_builtin; refine wpList_append_fits_any _ rfl (.tmp 68) (.tmp 69) 22 rfl w3.heap.size 5 i0 1 Tryf.underlying22 hi hz1 w3.heap.size 0 (lb + lc) [] rfl hoa (some ⟨b, off, none⟩) lb cb1 nb rfl (by rw [HNBE.out]; have := HBa.out.hlen; simpa using this) HNB1.out (by rw [HNBE.out]; exact HBa.out.news) (by rw [HNBE.out]; exact bytes_one _) (by omega) ?_)
          intro wb hob hgb
          have hbelb : Below w3.heap.size w3 wb := hbela.grown hgb hbela.size (by simp)
          have HCb := (show Hid _ from HC3.out.later hbelb)
          clear hgb hoa hbela HBa HCa
          go_wp2_with (at_builtin; refine wpList_append_fits_any _ rfl (.tmp 71) (.tmp 72) 22 rfl w3.heap.size 5 i0 1 Tryf.underlying22 hi hz1 w3.heap.size lb (lb + lc) nb rfl hob ac1 lc cc1 nc rfl (by rw [HNCE.out]; have := HCb.out.hlen; simpa using this) HNC1.out (by rw [HNCE.out]; exact HCb.out.news) (by rw [HNCE.out]; exact bytes_one _) (by omega) ?_)
          intro wj hoj hgj
          have hbelj : Below w3.heap.size w3 wj := hbelb.grown hgj hbelb.size (by simp)
          have HJ : Hid (Bs wj (some ⟨w3.heap.size, 0, none⟩) (lb + lc) (z :: r ++ zc)) := by
            rw [HNBE.out, HNCE.out, ← List.map_append] at hoj
            exact bs_row hoj (by rw [List.length_append, HB3.out.hlen, HC3.out.hlen]) (HB3.out.byte.append HC3.out.byte)
          have HBj := (show Hid _ from HB3.out.later hbelj)
          have HCj := (show Hid _ from HC3.out.later hbelj)
          clear hgj hoj hob hbelb HCb HNBE HNCE HB3 HC3
          have hFj : F.answers wj.tape := by rw [hbelj.tape]; exact hF3
          have hgvj : wj.cell? ⟨0, 0, none⟩ = some (.iface T v) := cell_later hbelj hg3
          have hbel := hbel3.trans (hbelj.mono hbel3.size)
          clear hbelj hF3 hg3 hbel3
          have cj := HJ.out.cons.2.1
          have cb := HBj.out.cons.2.1
          clear HJ HBj HCj
          go_wp2_with fail
          refine (rl_bad F w3.heap.size 0 (lb + lc) (lb + lc) z wj hFj (by omega) HBD.out cj).mono ?_
          rintro e w4 ⟨ej, rfl, hb4⟩
          have cb := cell_later hb4 cb
          have hbel := hbel.trans (hb4.mono hbel.size)
          clear hb4
          go_wp2_with fail
          refine (width_any z _ hzb.1 hzb.2).mono ?_
          rintro e w5 ⟨rfl, hw5⟩
          rw [hw5, HW.out]
          clear hw5
          go_wp2_with fail
          go_ret
          exact ⟨rfl, hbel⟩
        obtain ⟨n, hn⟩ : ∃ n : Nat, z = 252 ∧ n = 2 ∨ z = 253 ∧ n = 3 ∨ z = 254 ∧ n = 8 := by
          rcases (by omega : z = 252 ∨ z = 253 ∨ z = 254) with rfl | rfl | rfl
          · exact ⟨2, by simp⟩
          · exact ⟨3, by simp⟩
          · exact ⟨8, by simp⟩
        have HW : Hid (wid z = n) := by rcases hn with ⟨rfl, rfl⟩ | ⟨rfl, rfl⟩ | ⟨rfl, rfl⟩ <;> rfl
        have HN := (show Hid _ from hn)
        have hn2 : 2 ≤ n := by omega
        have hn8 : n ≤ 8 := by omega
        clear hn hs hbad
        by_cases hlong : n < lb
        · -- the bytes are there
          go_wp2_with fail
          refine (rl_ok b off lb cb1 z n r w2 HN.out hlong (by omega) hcb1 hlr HB2.out.byte.tail HB2.out.cons.2.1 HB2.out.cons.2.2.1).mono ?_
          rintro e w3 ⟨rfl, hw3⟩
          subst hw3
          have HB3 := HB2
          have HC3 := HC2
          have hF3 := hF2
          have hg3 := hg2
          have hbel3 := hbel
          clear HB2 HC2 hF2 hg2 hbel
          obtain ⟨nb, hnbe⟩ : ∃ nb, nb = (z :: r).map (Value.int .u8) := ⟨_, rfl⟩
          have HNBE : Hid (nb = (z :: r).map (Value.int .u8)) := hnbe
          obtain ⟨nc, hnce⟩ : ∃ nc, nc = zc.map (Value.int .u8) := ⟨_, rfl⟩
          have HNCE : Hid (nc = zc.map (Value.int .u8)) := hnce
          clear hnbe hnce
          go_wp2_with (at_make; refine wpList_make_own _ rfl _ (.tmp 66) 22 rfl w3.heap.size 5 i0 _ 1 Tryf.underlying22 hi hz0 hz1 _ _ _ (lb + lc) rfl rfl (by omega) (by rw [hz2]; omega) (by unfold maxLen; omega) (Nat.le_refl _) ?_)
          intro wa hoa hga
          have hbela : Below w3.heap.size w3 wa := (Below.refl _ _).grown hga (Nat.le_refl _) (by simp)
          have HBa := (show Hid _ from HB3.out.later hbela)
          have HCa := (show Hid _ from HC3.out.later hbela)
          clear hga
          go_wp2_with (at_builtin; refine wpList_append_fits_any _ rfl (.tmp 68) (.tmp 69) 22 rfl w3.heap.size 5 i0 1 Tryf.underlying22 hi hz1 w3.heap.size 0 (lb + lc) [] rfl hoa (some ⟨b, off, none⟩) lb cb1 nb rfl (by rw [HNBE.out]; have := HBa.out.hlen; simpa using this) HNB1.out (by rw [HNBE.out]; exact HBa.out.news) (by rw [HNBE.out]; exact bytes_one _) (by omega) ?_)
          intro wb hob hgb
          have hbelb : Below w3.heap.size w3 wb := hbela.grown hgb hbela.size (by simp)
          have HCb := (show Hid _ from HC3.out.later hbelb)
          clear hgb hoa hbela HBa HCa
          go_wp2_with (at_builtin; refine wpList_append_fits_any _ rfl (.tmp 71) (.tmp 72) 22 rfl w3.heap.size 5 i0 1 Tryf.underlying22 hi hz1 w3.heap.size lb (lb + lc) nb rfl hob ac1 lc cc1 nc rfl (by rw [HNCE.out]; have := HCb.out.hlen; simpa using this) HNC1.out (by rw [HNCE.out]; exact HCb.out.news) (by rw [HNCE.out]; exact bytes_one _) (by omega) ?_)
          intro wj hoj hgj
          have hbelj : Below w3.heap.size w3 wj := hbelb.grown hgj hbelb.size (by simp)
          have HJ : Hid (Bs wj (some ⟨w3.heap.size, 0, none⟩) (lb + lc) (z :: r ++ zc)) := by
            rw [HNBE.out, HNCE.out, ← List.map_append] at hoj
            exact bs_row hoj (by rw [List.length_append, HB3.out.hlen, HC3.out.hlen]) (HB3.out.byte.append HC3.out.byte)
          have HBj := (show Hid _ from HB3.out.later hbelj)
          have HCj := (show Hid _ from HC3.out.later hbelj)
          clear hgj hoj hob hbelb HCb HNBE HNCE HB3 HC3
          have hFj : F.answers wj.tape := by rw [hbelj.tape]; exact hF3
          have hgvj : wj.cell? ⟨0, 0, none⟩ = some (.iface T v) := cell_later hbelj hg3
          have hbel := hbel3.trans (hbelj.mono hbel3.size)
          clear hbelj hF3 hg3 hbel3
          obtain ⟨hlj, cj, hcj, hcja⟩ := HJ.out.cons
          obtain ⟨_, cb, hcb, hcba⟩ := HBj.out.cons
          have etk : (r ++ zc).take n = r.take n := List.take_append_of_le_length (by omega)
          have hrj := rl_ok w3.heap.size 0 (lb + lc) (lb + lc) z n (r ++ zc) wj HN.out (by omega) hm (Nat.le_refl _) hlj HJ.out.byte.tail cj hcj
          rw [etk] at hrj
          have HRJ : Hid (Calls Tryf.prog 6 #[.slice (some ⟨w3.heap.size, 0, none⟩) (lb + lc) (lb + lc)] wj fun e w' => e = .returned (.tuple #[.int .u64 (le (r.take n)), .int .i64 (1 + n), .nilIface]) ∧ w' = wj) := hrj
          have hzl := zzLE_any b off lb cb1 1 (1 + n) (z :: r) wj (by omega) (by omega) (by omega) (by omega) (by simpa using hlr) HBj.out.byte hcba
          rw [Int.natCast_add, show ((z :: r).take (1 + n)).drop 1 = r.take n by rw [Nat.add_comm]; simp] at hzl
          have HZL : Hid (Calls Tryf.prog 8 #[.slice (some ⟨b, off, none⟩) lb cb1, .int .i64 1, .int .i64 (1 + (n : Int))] wj fun e w' => e = .returned (.int .u64 (le (r.take n))) ∧ w' = wj) := hzl
          have hrp := rl_ok b off (1 + n) cb1 z n (r.take n) wj HN.out (by omega) (by omega) (by omega) (by simp; omega) (HBj.out.byte.tail.take n) cb (fun i hi => by
            have hi' : i < n ∧ i < r.length := by rw [List.length_take] at hi; omega
            rw [hcb i hi'.2]; congr 2; simp [List.getD, hi'.1])
          rw [List.take_take, Nat.min_self] at hrp
          have HRP : Hid (Calls Tryf.prog 6 #[.slice (some ⟨b, off, none⟩) (1 + n) cb1] wj fun e w' => e = .returned (.tuple #[.int .u64 (le (r.take n)), .int .i64 (1 + n), .nilIface]) ∧ w' = wj) := hrp
          have HRQ := (show Hid _ from rl_short F b off n cb1 z n T v wj hFj hgvj (by omega) HN.out (Nat.le_refl _) cb)
          obtain ⟨V, hV⟩ : ∃ V, V = le (r.take n) := ⟨_, rfl⟩
          rw [← hV] at HRJ HZL HRP ⊢
          clear HJ HBj HCj hcj hcja hcb hcba hlj hzl hrp hrj hV etk cj
          go_wp2_with fail
          refine Calls.mono HRJ ?_
          rintro e w4 ⟨rfl, hw4⟩
          rw [hw4]
          clear hw4
          go_wp2_with fail
          refine (width_any z _ hzb.1 hzb.2).mono ?_
          rintro e w4 ⟨rfl, hw4⟩
          rw [hw4, HW.out]
          clear hw4
          have en0 : ((n : Int) == 0) = false := by simp; omega
          go_wp2_with fail
          refine Calls.mono HZL ?_
          rintro e w4 ⟨rfl, hw4⟩
          rw [hw4]
          clear hw4
          go_wp2_with fail
          refine Calls.mono HRP ?_
          rintro e w4 ⟨rfl, hw4⟩
          rw [hw4]
          clear hw4
          go_wp2_with fail
          refine Calls.mono HRQ ?_
          rintro e w4 ⟨eq, rfl, hb4⟩
          have hbel4 := hbel.trans (hb4.mono hbel.size)
          clear hb4 HRQ HRP HRJ HZL
          go_wp2_with fail
          go_ret
          exact ⟨rfl, hbel4⟩
        · -- too few bytes in b
          have hsh : lb ≤ n := by omega
          clear hlr hlong
          go_wp2_with fail
          refine (rl_short F b off lb cb1 z n T v w2 hF2 hg2 hl0 HN.out hsh HB2.out.cons.2.1).mono ?_
          rintro e w3 ⟨eb, rfl, hb3⟩
          have HB3 := (show Hid _ from HB2.out.later hb3)
          have HC3 := (show Hid _ from HC2.out.later hb3)
          have hF3 : F.answers w3.tape := by rw [hb3.tape]; exact hF2
          have hg3 := cell_later hb3 hg2
          have hbel3 := hbel.trans (hb3.mono hbel.size)
          clear HB2 HC2 hb3 hF2 hg2 hbel
          obtain ⟨nb, hnbe⟩ : ∃ nb, nb = (z :: r).map (Value.int .u8) := ⟨_, rfl⟩
          have HNBE : Hid (nb = (z :: r).map (Value.int .u8)) := hnbe
          obtain ⟨nc, hnce⟩ : ∃ nc, nc = zc.map (Value.int .u8) := ⟨_, rfl⟩
          have HNCE : Hid (nc = zc.map (Value.int .u8)) := hnce
          clear hnbe hnce
          go_wp2_with (at_make; refine wpList_make_own _ rfl _ (.tmp 66) 22 rfl w3.heap.size 5 i0 _ 1 Tryf.underlying22 hi hz0 hz1 _ _ _ (lb + lc) rfl rfl (by omega) (by rw [hz2]; omega) (by unfold maxLen; omega) (Nat.le_refl _) ?_)
          intro wa hoa hga
          have hbela : Below w3.heap.size w3 wa := (Below.refl _ _).grown hga (Nat.le_refl _) (by simp)
          have HBa := (show Hid _ from HB3.out.later hbela)
          have HCa := (show Hid _ from HC3.out.later hbela)
          clear hga
          go_wp2_with (at_builtin; refine wpList_append_fits_any _ rfl (.tmp 68) (.tmp 69) 22 rfl w3.heap.size 5 i0 1 Tryf.underlying22 hi hz1 w3.heap.size 0 (lb + lc) [] rfl hoa (some ⟨b, off, none⟩) lb cb1 nb rfl (by rw [HNBE.out]; have := HBa.out.hlen; simpa using this) HNB1.out (by rw [HNBE.out]; exact HBa.out.news) (by rw [HNBE.out]; exact bytes_one _) (by omega) ?_)
          intro wb hob hgb
          have hbelb : Below w3.heap.size w3 wb := hbela.grown hgb hbela.size (by simp)
          have HCb := (show Hid _ from HC3.out.later hbelb)
          clear hgb hoa hbela HBa HCa
          go_wp2_with (at_builtin; refine wpList_append_fits_any _ rfl (.tmp 71) (.tmp 72) 22 rfl w3.heap.size 5 i0 1 Tryf.underlying22 hi hz1 w3.heap.size lb (lb + lc) nb rfl hob ac1 lc cc1 nc rfl (by rw [HNCE.out]; have := HCb.out.hlen; simpa using this) HNC1.out (by rw [HNCE.out]; exact HCb.out.news) (by rw [HNCE.out]; exact bytes_one _) (by omega) ?_)
          intro wj hoj hgj
          have hbelj : Below w3.heap.size w3 wj := hbelb.grown hgj hbelb.size (by simp)
          have HJ : Hid (Bs wj (some ⟨w3.heap.size, 0, none⟩) (lb + lc) (z :: r ++ zc)) := by
            rw [HNBE.out, HNCE.out, ← List.map_append] at hoj
            exact bs_row hoj (by rw [List.length_append, HB3.out.hlen, HC3.out.hlen]) (HB3.out.byte.append HC3.out.byte)
          have HBj := (show Hid _ from HB3.out.later hbelj)
          have HCj := (show Hid _ from HC3.out.later hbelj)
          clear hgj hoj hob hbelb HCb HNBE HNCE HB3 HC3
          have hFj : F.answers wj.tape := by rw [hbelj.tape]; exact hF3
          have hgvj : wj.cell? ⟨0, 0, none⟩ = some (.iface T v) := cell_later hbelj hg3
          have hbel := hbel3.trans (hbelj.mono hbel3.size)
          clear hbelj hF3 hg3 hbel3
          have cb := HBj.out.cons.2.1
          have cj := HJ.out.cons.2.1
          by_cases hjs : lb + lc ≤ n
          · clear HJ HBj HCj
            go_wp2_with fail
            refine (rl_short F w3.heap.size 0 (lb + lc) (lb + lc) z n T v wj hFj hgvj (by omega) HN.out hjs cj).mono ?_
            rintro e w4 ⟨ej, rfl, hb4⟩
            have cb := cell_later hb4 cb
            have hbel := hbel.trans (hb4.mono hbel.size)
            clear hb4
            go_wp2_with fail
            refine (width_any z _ hzb.1 hzb.2).mono ?_
            rintro e w5 ⟨rfl, hw5⟩
            rw [hw5, HW.out]
            clear hw5
            go_wp2_with fail
            go_ret
            exact ⟨rfl, hbel⟩
          · have hjl : n < lb + lc := by omega
            obtain ⟨hlj, _, hcj, hcja⟩ := HJ.out.cons
            have HRL : Hid (Calls Tryf.prog 6 #[.slice (some ⟨w3.heap.size, 0, none⟩) (lb + lc) (lb + lc)] wj fun e w' => e = .returned (.tuple #[.int .u64 (le ((r ++ zc).take n)), .int .i64 (1 + n), .nilIface]) ∧ w' = wj) :=
              rl_ok w3.heap.size 0 (lb + lc) (lb + lc) z n (r ++ zc) wj HN.out hjl hm (Nat.le_refl _) hlj HJ.out.byte.tail cj hcj
            have hzl := zzLE_any w3.heap.size 0 (lb + lc) (lb + lc) 1 (1 + n) (z :: (r ++ zc)) wj hm (by omega) (by omega) (by omega) (by simpa using hlj) HJ.out.byte hcja
            rw [Int.natCast_add, show ((z :: (r ++ zc)).take (1 + n)).drop 1 = (r ++ zc).take n by rw [Nat.add_comm]; simp] at hzl
            have HZL : Hid (Calls Tryf.prog 8 #[.slice (some ⟨w3.heap.size, 0, none⟩) (lb + lc) (lb + lc), .int .i64 1, .int .i64 (1 + (n : Int))] wj fun e w' => e = .returned (.int .u64 (le ((r ++ zc).take n))) ∧ w' = wj) := hzl
            obtain ⟨V, hV⟩ : ∃ V, V = le ((r ++ zc).take n) := ⟨_, rfl⟩
            rw [← hV] at HRL HZL
            clear HJ HBj HCj hcj hcja hlj hzl hV hjs
            go_wp2_with fail
            refine Calls.mono HRL ?_
            rintro e w4 ⟨rfl, hw4⟩
            rw [hw4]
            clear hw4
            go_wp2_with fail
            refine (width_any z _ hzb.1 hzb.2).mono ?_
            rintro e w4 ⟨rfl, hw4⟩
            rw [hw4, HW.out]
            clear hw4
            go_wp2_with fail
            refine Calls.mono HZL ?_
            rintro e w4 ⟨rfl, hw4⟩
            rw [hw4]
            clear hw4
            go_wp2_with fail
            go_ret
            exact ⟨ret_true (by simp), hbel⟩
end Go.Proofs.Qxb6630436aFmt
