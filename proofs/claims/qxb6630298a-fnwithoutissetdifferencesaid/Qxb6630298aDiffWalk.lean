/-
  THE WALK of Without's closure: one actor.
-/
import Derived.Test.Qxb6630298aAddAll
import Derived.Test.Qxb6630298aRanges
import Derived.Test.Qxb6630298aDiff
import Derived.BigQuiet
import Derived.Deep.CutBlock
namespace Go.Proofs.Qxb6630298a
open Go.RowKit Go.Maps

theorem upd_upd {α : Type} (f : List UInt8 → α) (k0 : List UInt8) (a b : α) : upd (upd f k0 a) k0 b = upd f k0 b := by
  funext k; unfold upd; split <;> rfl

/-- The clock that is being filled: q spans have been added for one actor. -/
structure Inn (pu : Nat) (s : ByteArray) (Fu : Nat → Prop) (Ku : List UInt8 → List (Int × Int)) (nmu : Nat) (w1 : World) (Fu' : Nat → Prop) (R' : List (Int × Int)) (q : Nat) (wr : World) : Prop where
  clock : Clock wr pu Fu' (upd Ku (key s) R') (nmu + q)
  foot : ∀ k, Fu' k → Fu k ∨ w1.heap.size ≤ k
  kept : Kept Fu w1 wr
  len : R'.length ≤ q

section
variable {pu : Nat} {s : ByteArray} {Fu : Nat → Prop} {Ku : List UInt8 → List (Int × Int)} {nmu : Nat} {w1 : World} {Fu' : Nat → Prop} {R' : List (Int × Int)} {q : Nat} {wr : World}
theorem Inn.alloc (h : Inn pu s Fu Ku nmu w1 Fu' R' q wr) (o : Obj) : Inn pu s Fu Ku nmu w1 Fu' R' q (wr.alloc o) :=
  ⟨h.clock.later ((Kept.refl none' wr).alloc o) (fun _ _ h => h), h.foot, h.kept.alloc o, h.len⟩
theorem Inn.drew (h : Inn pu s Fu Ku nmu w1 Fu' R' q wr) : Inn pu s Fu Ku nmu w1 Fu' R' q wr.drew :=
  ⟨h.clock.later ((Kept.refl none' wr).drew) (fun _ _ h => h), h.foot, h.kept.drew, h.len⟩
theorem Inn.drewN (h : Inn pu s Fu Ku nmu w1 Fu' R' q wr) (n : Nat) : Inn pu s Fu Ku nmu w1 Fu' R' q (wr.drewN n) :=
  ⟨h.clock.later ((Kept.refl none' wr).drewN n) (fun _ _ h => h), h.foot, h.kept.drewN n, h.len⟩
theorem Inn.more (h : Inn pu s Fu Ku nmu w1 Fu' R' q wr) {q' : Nat} (hq : q ≤ q') : Inn pu s Fu Ku nmu w1 Fu' R' q' wr :=
  ⟨h.clock.mono (fun _ h => h) h.clock.bound (by omega), h.foot, h.kept, by have := h.len; omega⟩
theorem Inn.fresh (h : Inn pu s Fu Ku nmu w1 Fu' R' q wr) : ¬ Fu' wr.heap.size := fun hf => by have := h.clock.bound _ hf; omega

/-- .. and one more. -/
theorem Inn.add (h : Inn pu s Fu Ku nmu w1 Fu' R' q wr) {lo hi : Int} {e : Ending} {w' : World} (hp : AddPost pu s lo hi Fu' (upd Ku (key s) R') (nmu + q) wr e w') :
    e = .returned (.tuple #[]) ∧ ∃ Fu'' R'', Inn pu s Fu Ku nmu w1 Fu'' R'' (q + 1) w' ∧ (∀ x, mem x R'' ↔ mem x R' ∨ (1 ≤ x ∧ lo ≤ x ∧ x ≤ hi)) ∧ Kept Fu' wr w' ∧ (∀ k, k < wr.heap.size → Fu'' k → Fu' k) := by
  obtain ⟨rfl, hk, R'', _, hm, hl, hc⟩ := hp
  rw [upd_same] at hm hl
  rw [upd_upd] at hc
  refine ⟨rfl, _, R'', ⟨hc, ?_, h.kept.trans hk (fun i hi hf => (h.foot i hf).elim id (fun h => by omega)), by have := h.len; omega⟩, hm, hk, fun k hk' hf => hf.elim id (fun h => by omega)⟩
  rintro k (hf | hf)
  · exact h.foot k hf
  · have := h.kept.size; exact .inr (by omega)
end

/-- What the closure leaves. -/
def DiffPost (pu : Nat) (s : ByteArray) (Fu : Nat → Prop) (Ku : List UInt8 → List (Int × Int)) (nmu : Nat) (Rc Ro : List (Int × Int)) (w : World) (e : Ending) (w' : World) : Prop :=
  e = .returned (.tuple #[]) ∧ Kept Fu w w' ∧ ∃ R', (∀ x, mem x R' ↔ mem x Rc ∧ ¬ mem x Ro) ∧ R'.length ≤ Rc.length + Ro.length ∧
    Clock w' pu (fun k => Fu k ∨ (w.heap.size ≤ k ∧ k < w'.heap.size)) (upd Ku (key s) R') (nmu + (Rc.length + Ro.length))

/-- The outer loop's invariant. -/
def OutI (pu : Nat) (s : ByteArray) (Fu : Nat → Prop) (Ku : List UInt8 → List (Int × Int)) (nmu : Nat) (Rc Ro : List (Int × Int)) (w1 : World) (ii jj : Nat) (wr : World) : Prop :=
  ii ≤ Rc.length ∧ jj ≤ Ro.length ∧ (ii < Rc.length → ∀ k, k < jj → k < Ro.length → (Ro.getD k (0, 0)).2 < (Rc.getD ii (0, 0)).1) ∧
  ∃ Fu' R', Inn pu s Fu Ku nmu w1 Fu' R' (ii + jj) wr ∧ ∀ x, mem x R' ↔ mem x (Rc.take ii) ∧ ¬ mem x Ro
/-- The inner loop's. -/
def InnI (pu : Nat) (s : ByteArray) (Fu : Nat → Prop) (Ku : List UInt8 → List (Int × Int)) (nmu : Nat) (Rc Ro : List (Int × Int)) (w1 : World) (B : Nat) (ii jj : Nat) (l : Int) (wr : World) : Prop :=
  jj ≤ Ro.length ∧ (Rc.getD ii (0, 0)).1 ≤ l ∧ l ≤ (Rc.getD ii (0, 0)).2 ∧ (∀ k, k < jj → k < Ro.length → (Ro.getD k (0, 0)).2 < l) ∧
  wr.heap[B]? = some (.cells #[.int .u64 (Rc.getD ii (0, 0)).1, .int .u64 (Rc.getD ii (0, 0)).2] 38 (0, 0)) ∧
  ∃ Fu' R', Inn pu s Fu Ku nmu w1 Fu' R' (ii + jj) wr ∧ ¬ Fu' B ∧ ∀ x, mem x R' ↔ (mem x (Rc.take ii) ∨ ((Rc.getD ii (0, 0)).1 ≤ x ∧ x < l)) ∧ ¬ mem x Ro

/-- .. and how it is left. -/
def EndI (pu : Nat) (s : ByteArray) (Fu : Nat → Prop) (Ku : List UInt8 → List (Int × Int)) (nmu : Nat) (Rc Ro : List (Int × Int)) (w1 : World) (B ii : Nat) (j l wh : Value) (wr : World) : Prop :=
  ∃ (jj : Nat) (lv : Int), j = .int .i64 jj ∧ l = .int .u64 lv ∧
    ((wh = .bool true ∧ InnI pu s Fu Ku nmu Rc Ro w1 B ii jj lv wr ∧ (jj < Ro.length → (Rc.getD ii (0, 0)).2 < (Ro.getD jj (0, 0)).1)) ∨ (wh = .bool false ∧ OutI pu s Fu Ku nmu Rc Ro w1 (ii + 1) jj wr))

section
variable {pu : Nat} {s : ByteArray} {Fu : Nat → Prop} {Ku : List UInt8 → List (Int × Int)} {nmu : Nat} {w1 : World} {Rc Ro : List (Int × Int)} {B ii jj : Nat} {l m : Int} {wr : World} {Fu' : Nat → Prop} {R' : List (Int × Int)}

theorem InnI.drewN (h : InnI pu s Fu Ku nmu Rc Ro w1 B ii jj l wr) (n : Nat) : InnI pu s Fu Ku nmu Rc Ro w1 B ii jj l (wr.drewN n) := by
  obtain ⟨h1, h2, h3, h4, h5, Fu', R', h6, h7, h8⟩ := h
  exact ⟨h1, h2, h3, h4, h5, Fu', R', h6.drewN n, h7, h8⟩
theorem InnI.skip (h : InnI pu s Fu Ku nmu Rc Ro w1 B ii jj l wr) (hj : jj < Ro.length) (ho : (Ro.getD jj (0, 0)).2 < l) {W : World} (hw : W.heap = wr.heap) (h1 : W.os = wr.os) (h2 : W.tape = wr.tape) (h3 : W.output = wr.output) (o : Obj) : InnI pu s Fu Ku nmu Rc Ro w1 B ii (jj + 1) l (W.alloc o) := by
  obtain ⟨_, hl1, hl2, hk, hB, Fu', R', hinn, hnB, hmem⟩ := h
  have kW : Kept none' wr (W.alloc o) := (show Kept none' wr W from ⟨h1, h2, h3, by rw [hw]; exact Nat.le_refl _, fun k _ _ => by rw [hw]⟩).alloc o
  refine ⟨hj, hl1, hl2, fun k hk1 hk2 => ?_, (kW.block B (Array.getElem?_eq_some_iff.1 hB).1 (fun h => h)).trans hB, Fu', R', ⟨(hinn.clock.later kW (fun _ _ h => h)).mono (fun _ h => h) (fun k h => Nat.lt_of_lt_of_le (hinn.clock.bound k h) kW.size) (by omega), hinn.foot, hinn.kept.trans kW (fun _ _ h => h.elim), by have := hinn.len; omega⟩, hnB, hmem⟩
  by_cases e : k = jj
  · subst e; exact ho
  · exact hk k (by omega) hk2

theorem inn_next (hl1 : (Rc.getD ii (0, 0)).1 ≤ l) (hk : ∀ k, k < jj → k < Ro.length → (Ro.getD k (0, 0)).2 < l) (hj : jj < Ro.length) (hB : wr.heap[B]? = some (.cells #[.int .u64 (Rc.getD ii (0, 0)).1, .int .u64 (Rc.getD ii (0, 0)).2] 38 (0, 0)))
    (hinn : Inn pu s Fu Ku nmu w1 Fu' R' (ii + jj + 1) wr) (hnB : ¬ Fu' B) (hm : ∀ x, mem x R' ↔ (mem x (Rc.take ii) ∨ ((Rc.getD ii (0, 0)).1 ≤ x ∧ x < m)) ∧ ¬ mem x Ro) (h1 : (Ro.getD jj (0, 0)).1 ≤ m) (hmo : m ≤ (Ro.getD jj (0, 0)).2 + 1) (hlm : l ≤ m) (hlt : (Ro.getD jj (0, 0)).2 < (Rc.getD ii (0, 0)).2) :
    InnI pu s Fu Ku nmu Rc Ro w1 B ii (jj + 1) ((Ro.getD jj (0, 0)).2 + 1) wr := by
  refine ⟨hj, by omega, by omega, fun k hk1 hk2 => ?_, hB, Fu', R', hinn, hnB, diff_next hj hm h1 hmo⟩
  by_cases e : k = jj
  · subst e; omega
  · have := hk k (by omega) hk2; omega

theorem out_break (hcc : canon 1 Rc) (hii : ii < Rc.length) (hj : jj < Ro.length) (hk : ∀ k, k < jj → k < Ro.length → (Ro.getD k (0, 0)).2 < l) (hl2 : l ≤ (Rc.getD ii (0, 0)).2)
    (hinn : Inn pu s Fu Ku nmu w1 Fu' R' (ii + jj + 1) wr) (hm : ∀ x, mem x R' ↔ (mem x (Rc.take ii) ∨ ((Rc.getD ii (0, 0)).1 ≤ x ∧ x < m)) ∧ ¬ mem x Ro) (h1 : (Ro.getD jj (0, 0)).1 ≤ m) (hms : m ≤ (Rc.getD ii (0, 0)).2 + 1) (h2 : (Rc.getD ii (0, 0)).2 ≤ (Ro.getD jj (0, 0)).2) :
    OutI pu s Fu Ku nmu Rc Ro w1 (ii + 1) jj wr := by
  refine ⟨hii, by omega, fun h3 k hk1 hk2 => ?_, Fu', R', hinn.more (by omega), diff_covered hii hj hm h1 hms h2⟩
  have := canon_order hcc ii (ii + 1) (by omega) h3
  have := hk k hk1 hk2
  omega

theorem out_last (hc : canon 1 Ro) (hcc : canon 1 Rc) (hii : ii < Rc.length) (hjj : jj ≤ Ro.length) (hk : ∀ k, k < jj → k < Ro.length → (Ro.getD k (0, 0)).2 < l) (hl1 : (Rc.getD ii (0, 0)).1 ≤ l) (hl2 : l ≤ (Rc.getD ii (0, 0)).2) {R : List (Int × Int)}
    (hinn : Inn pu s Fu Ku nmu w1 Fu' R' (ii + jj + 1) wr) (hm : ∀ x, mem x R ↔ (mem x (Rc.take ii) ∨ ((Rc.getD ii (0, 0)).1 ≤ x ∧ x < l)) ∧ ¬ mem x Ro) (ha : ∀ x, mem x R' ↔ mem x R ∨ (1 ≤ x ∧ l ≤ x ∧ x ≤ (Rc.getD ii (0, 0)).2)) (hend : jj < Ro.length → (Rc.getD ii (0, 0)).2 < (Ro.getD jj (0, 0)).1) :
    OutI pu s Fu Ku nmu Rc Ro w1 (ii + 1) jj wr := by
  refine ⟨hii, hjj, fun h3 k hk1 hk2 => ?_, Fu', R', hinn.more (by omega), diff_last hc hcc hii hk hl1 hl2 hm ha hend⟩
  have := canon_order hcc ii (ii + 1) (by omega) h3
  have := hk k hk1 hk2
  omega
end

set_option maxRecDepth 100000 in
set_option maxHeartbeats 6400000 in
theorem diffOne (pu pc po bo bc : Nat) (s : ByteArray) (Fu Fc Fo : Nat → Prop) (Ku Kc Ko : List UInt8 → List (Int × Int)) (nmu nmc nmo : Nat) (w : World) (hs : s.size ≤ maxLen)
    (hu : Clock w pu Fu Ku nmu) (hc : Clock w pc Fc Kc nmc) (ho : Clock w po Fo Ko nmo) (hdc : ∀ k, Fc k → ¬ Fu k) (hdo : ∀ k, Fo k → ¬ Fu k) (h0 : Ku (key s) = [])
    (hbo : w.cell? ⟨bo, 0, none⟩ = some (.pointer (some ⟨po, 0, none⟩))) (hbc : w.cell? ⟨bc, 0, none⟩ = some (.pointer (some ⟨pc, 0, none⟩)))
    (hNc : (Kc (key s)).length ≤ 1073741824) (hNo : (Ko (key s)).length ≤ 1073741824) (hnm : nmu ≤ 1073741824) :
    Calls Try.prog 18 #[.string s, .pointer (some ⟨bo, 0, none⟩), .pointer (some ⟨bc, 0, none⟩), .pointer (some ⟨pu, 0, none⟩)] w fun e w' => DiffPost pu s Fu Ku nmu (Kc (key s)) (Ko (key s)) w e w' := by
  obtain ⟨Rc, hRc⟩ : ∃ Rc, Rc = Kc (key s) := ⟨_, rfl⟩
  obtain ⟨Ro, hRo⟩ : ∃ Ro, Ro = Ko (key s) := ⟨_, rfl⟩
  have HCC : Hid (canon 1 Rc) := by rw [hRc]; exact hc.canon _
  have HCO : Hid (canon 1 Ro) := by rw [hRo]; exact ho.canon _
  have HU := (show Hid (Clock w pu Fu Ku nmu) from hu)
  have HCl := (show Hid (Clock w pc Fc Kc nmc) from hc)
  have HO := (show Hid (Clock w po Fo Ko nmo) from ho)
  have HRc : Hid (Rc = Kc (key s)) := hRc
  have HRo : Hid (Ro = Ko (key s)) := hRo
  rw [← hRc, ← hRo]
  have hNc' := hNc
  have hNo' := hNo
  rw [← hRc] at hNc'
  rw [← hRo] at hNo'
  clear hu hc ho hRc hRo
  go_enter Try.func18, Try.ntmps18
  go_wp2_with (go_at_call 19; refine (ranges po s Fo Ko nmo w hs HO.out (by omega)).mono ?_)
  rintro e wa ⟨Vo, rfl, hka, hVo⟩
  have hbc' := hka.cell hbc (fun h => h)
  have HKA := (show Hid (Kept none' w wa) from hka)
  have HVO := (show Hid (SpanS wa (fun g => Fo g ∨ w.heap.size ≤ g) Vo (Ko (key s))) from hVo)
  clear hka hVo hbc
  go_wp2_with (go_at_call 19; refine (ranges pc s Fc Kc nmc wa hs (HCl.out.later HKA.out (fun _ _ h => h)) (by omega)).mono ?_)
  rintro e w1 ⟨Vc, rfl, hkb, hVc⟩
  have hw1 : Kept none' w w1 := HKA.out.trans hkb (fun _ _ h => h)
  have hFu : ∀ k, Fu k → k < w.heap.size := HU.out.bound
  obtain ⟨aoo, no, co, rfl, hno, hnco, hro⟩ := HVO.out
  obtain ⟨aoc, nc, cc, rfl, hnc, hncc, hrc⟩ := hVc
  rw [← HRo.out] at hno hro
  rw [← HRc.out] at hnc hrc
  have HRO : Hid (Ro ≠ [] → ∃ g off, aoo = some ⟨g, off, none⟩ ∧ (∀ W, Kept Fu w1 W → Row W g off co Ro) ∧ g < w1.heap.size ∧ ¬ Fu g) := fun h => by
    obtain ⟨g, off, e, hr, hg⟩ := hro h
    have hng : ¬ Fu g := hg.elim (hdo g) (fun h hf => by have := hFu g hf; omega)
    exact ⟨g, off, e, fun W hW => (hr.later hkb (fun h => h)).later hW hng, Nat.lt_of_lt_of_le hr.lt hkb.size, hng⟩
  have HRC : Hid (Rc ≠ [] → ∃ g off, aoc = some ⟨g, off, none⟩ ∧ (∀ W, Kept Fu w1 W → Row W g off cc Rc) ∧ g < w1.heap.size ∧ ¬ Fu g) := fun h => by
    obtain ⟨g, off, e, hr, hg⟩ := hrc h
    have hng : ¬ Fu g := hg.elim (hdc g) (fun h hf => by have := hFu g hf; have := HKA.out.size; omega)
    exact ⟨g, off, e, fun W hW => hr.later hW hng, hr.lt, hng⟩
  have HSt : Hid (OutI pu s Fu Ku nmu Rc Ro w1 0 0 w1) := by
    refine ⟨Nat.zero_le _, Nat.zero_le _, fun _ k hk => by omega, Fu, [], ⟨?_, fun k h => .inl h, Kept.refl _ _, Nat.zero_le _⟩, fun x => ?_⟩
    · have e : upd Ku (key s) [] = Ku := by rw [← h0, upd_self]
      rw [e]
      exact (HU.out.later hw1 (fun _ _ h => h)).mono (fun _ h => h) (fun k h => Nat.lt_of_lt_of_le (hFu k h) hw1.size) (Nat.le_refl _)
    · simp [mem_nil]
  have HW1 : Hid (Kept none' w w1) := hw1
  have HFu : Hid (∀ k, Fu k → k < w.heap.size) := hFu
  have HNO : Hid (no = Ro.length) := hno
  have HNC : Hid (nc = Rc.length) := hnc
  have hno30 : no ≤ 1073741824 := by omega
  have hnc30 : nc ≤ 1073741824 := by omega
  clear hw1 hFu hno hnc hro hrc hkb HVO hNc hNo hbc' hbo hNc' hNo'
  go_wp2_with fail
  go_loopw [6, 19] (fun j ix wr => ∃ jj ii : Nat, j = .int .i64 jj ∧ ix = .int .i64 ii ∧ OutI pu s Fu Ku nmu Rc Ro w1 ii jj wr) (fun _ ix _ => nc - (intOf ix).toNat)
  case atStart => exact ⟨0, 0, rfl, rfl, HSt.out⟩
  case round =>
    obtain ⟨w2, hw2⟩ : ∃ w2, w2 = wr := ⟨_, rfl⟩
    subst hw2
    obtain ⟨jj, ii, rfl, rfl, hout⟩ := hrel
    have hjn : jj ≤ no := by rw [HNO.out]; exact hout.2.1
    have hin : ii ≤ nc := by rw [HNC.out]; exact hout.1
    have HOut := (show Hid _ from hout)
    clear hout HSt
    by_cases hlt : ii < nc
    · have hRne : Rc ≠ [] := fun h => by have := HNC.out; rw [h] at this; simp at this; omega
      obtain ⟨gc, offc, hao, hrow, hgl, hgn⟩ := HRC.out hRne
      obtain ⟨_, _, hord, Fu', R', hinn, hmem⟩ := HOut.out
      obtain ⟨rc0, rc1⟩ := (hrow w2 hinn.kept).cells ii (by rw [← HNC.out]; exact hlt)
      have hbd := canon_bd HCC.out _ (getD_mem (show ii < Rc.length by rw [← HNC.out]; exact hlt))
      obtain ⟨sLo, hsLo⟩ : ∃ sLo, sLo = (Rc.getD ii (0, 0)).1 := ⟨_, rfl⟩
      obtain ⟨sHi, hsHi⟩ : ∃ sHi, sHi = (Rc.getD ii (0, 0)).2 := ⟨_, rfl⟩
      have HIn : Hid (InnI pu s Fu Ku nmu Rc Ro w1 w2.heap.size ii jj sLo (w2.alloc (.cells #[.int .u64 sLo, .int .u64 sHi] 38))) := by
        refine ⟨by rw [← HNO.out]; exact hjn, by omega, by omega, fun k h1 h2 => by have := hord (by rw [← HNC.out]; exact hlt) k h1 h2; omega, by rw [← hsLo, ← hsHi]; exact heap_alloc_new w2 _, Fu', R', hinn.alloc _, hinn.fresh, fun x => ?_⟩
        rw [hmem]
        constructor
        · rintro ⟨h, hn⟩; exact ⟨.inl h, hn⟩
        · rintro ⟨h | h, hn⟩
          · exact ⟨h, hn⟩
          · omega
      rw [← hsLo, ← hsHi] at hbd
      rw [← hsLo] at rc0
      rw [← hsHi] at rc1
      have HsLo : Hid (sLo = (Rc.getD ii (0, 0)).1) := hsLo
      have HsHi : Hid (sHi = (Rc.getD ii (0, 0)).2) := hsHi
      obtain ⟨hb1, hb2, hb3⟩ := hbd
      subst hao
      clear hrow hord hinn hmem hsLo hsHi hRne HRC HOut
      have hlen : Hid (ii < Rc.length) := (show ii < Rc.length by rw [← HNC.out]; exact hlt)
      go_upto_block 2 with fail
      go_cut [6, 9, 10, 11] from 25 to 67 (fun j l wh _ wx => EndI pu s Fu Ku nmu Rc Ro w1 w2.heap.size ii j l wh wx)
      case first =>
        go_wp2_with fail
        go_loopw [6, 9, 10] (fun j l wh wr => ∃ (jj : Nat) (lv : Int), j = .int .i64 jj ∧ l = .int .u64 lv ∧ wh = .bool true ∧ InnI pu s Fu Ku nmu Rc Ro w1 w2.heap.size ii jj lv wr) (fun j _ _ _ => no - (intOf j).toNat)
        case atStart => exact ⟨jj, sLo, rfl, rfl, rfl, HIn.out⟩
        case round =>
          obtain ⟨jj, lv, rfl, rfl, rfl, hinI⟩ := hrel
          have HInI := (show Hid (InnI pu s Fu Ku nmu Rc Ro w1 w2.heap.size ii jj lv wr) from hinI)
          obtain ⟨hjj, hl1, hl2, hk, hB, Fu', R', hinn, hnB, hmem⟩ := hinI
          rw [← HsLo.out, ← HsHi.out] at hB
          rw [← HsLo.out] at hl1
          rw [← HsHi.out] at hl2
          obtain ⟨cB0, cB1, _⟩ := cell_struct hB
          have HB := (show Hid (wr.heap[w2.heap.size]? = some (.cells #[.int .u64 sLo, .int .u64 sHi] 38 (0, 0))) from hB)
          have HI := (show Hid (Inn pu s Fu Ku nmu w1 Fu' R' (ii + jj) wr) from hinn)
          have HK := (show Hid _ from hk)
          have HM := (show Hid _ from hmem)
          rw [← HNO.out] at hjj
          clear hB hinn hk hmem HIn
          by_cases hj : jj < no
          · have hjlen : Hid (jj < Ro.length) := (show jj < Ro.length by rw [← HNO.out]; exact hj)
            have hRne : Ro ≠ [] := fun h => by have := HNO.out; rw [h] at this; simp at this; omega
            obtain ⟨go, offo, hao, hrow, hgol, hgon⟩ := HRO.out hRne
            obtain ⟨ro0, ro1⟩ := (hrow wr HI.out.kept).cells jj hjlen.out
            have hobd := canon_bd HCO.out _ (getD_mem hjlen.out)
            obtain ⟨oLo, hoLo⟩ : ∃ oLo, oLo = (Ro.getD jj (0, 0)).1 := ⟨_, rfl⟩
            obtain ⟨oHi, hoHi⟩ : ∃ oHi, oHi = (Ro.getD jj (0, 0)).2 := ⟨_, rfl⟩
            rw [← hoLo, ← hoHi] at hobd
            rw [← hoLo] at ro0
            rw [← hoHi] at ro1
            have HoLo : Hid (oLo = (Ro.getD jj (0, 0)).1) := hoLo
            have HoHi : Hid (oHi = (Ro.getD jj (0, 0)).2) := hoHi
            obtain ⟨ho1, ho2, ho3⟩ := hobd
            subst hao
            clear hrow hoLo hoHi hRne HRO
            by_cases hle : oLo ≤ sHi
            · have hd : decide (oLo ≤ sHi) = true := by simp [hle]
              have hd0 : decide ((jj : Int) < (no : Int)) = true := by simp; omega
              go_upto_region 5 with fail
              go_quiet (fail)
              have hInW : InnI pu s Fu Ku nmu Rc Ro w1 w2.heap.size ii jj lv (wr.drewN nq) := HInI.out.drewN nq
              have hIW : Inn pu s Fu Ku nmu w1 Fu' R' (ii + jj) (wr.drewN nq) := HI.out.drewN nq
              have hBW : (wr.drewN nq).heap[w2.heap.size]? = some (.cells #[.int .u64 sLo, .int .u64 sHi] 38 (0, 0)) := HB.out
              have qo0 : (wr.drewN nq).cell? ⟨go, offo + jj * 2, none⟩ = some (.int .u64 oLo) := ro0
              have qo1 : (wr.drewN nq).cell? ⟨go, offo + jj * 2 + 1, none⟩ = some (.int .u64 oHi) := ro1
              obtain ⟨W, hW⟩ : ∃ W, W = wr.drewN nq := ⟨_, rfl⟩
              rw [← hW] at hInW hIW hBW qo0 qo1 ⊢
              clear hW cB0 cB1 ro0 ro1 HB HI HInI hd hd0
              obtain ⟨cB0, cB1, fB⟩ := cell_struct hBW
              have hBl : w2.heap.size < W.heap.size := (Array.getElem?_eq_some_iff.1 hBW).1
              have hBne : w2.heap.size ≠ W.heap.size := by omega
              have HInW := (show Hid (InnI pu s Fu Ku nmu Rc Ro w1 w2.heap.size ii jj lv W) from hInW)
              have HIW := (show Hid (Inn pu s Fu Ku nmu w1 Fu' R' (ii + jj) W) from hIW)
              have HBW := (show Hid (W.heap[w2.heap.size]? = some (.cells #[.int .u64 sLo, .int .u64 sHi] 38 (0, 0))) from hBW)
              clear hInW hIW hBW fB
              by_cases hsk : oHi < lv
              · go_wp2_with fail
                go_roundw
                case rel => exact ⟨jj + 1, lv, by go_num, rfl, rfl, HInW.out.skip hjlen.out (by rw [← HoHi.out]; exact hsk) rfl rfl rfl rfl _⟩
                case measure => simp [intOf]; omega
              · have Hl1 : Hid ((Rc.getD ii (0, 0)).1 ≤ lv) := (show (Rc.getD ii (0, 0)).1 ≤ lv by rw [← HsLo.out]; exact hl1)
                have Hl2 : Hid (lv ≤ (Rc.getD ii (0, 0)).2) := (show lv ≤ (Rc.getD ii (0, 0)).2 by rw [← HsHi.out]; exact hl2)
                have HnB : Hid (¬ Fu' w2.heap.size) := hnB
                by_cases hgt : lv < oLo
                · have hlv0 : 0 ≤ lv := by omega
                  have hlv1 : lv ≤ oLo - 1 := by omega
                  have hol : oLo - 1 ≤ 18446744073709551615 := by omega
                  have hlenR : ((upd Ku (key s) R') (key s)).length ≤ 1099511627776 := by rw [upd_same]; have := HIW.out.len; omega
                  have hq : nmu + (ii + jj) < 1099511627776 := by omega
                  go_wp2_with (go_at_call 20; refine (addSpan pu s lv (oLo - 1) Fu' (upd Ku (key s) R') (nmu + (ii + jj)) (W.alloc (.cells #[.int .u64 oLo, .int .u64 oHi] 38)) hs hlv0 hlv1 hol (HIW.out.alloc _).clock hlenR hq).mono ?_)
                  intro e w' hp
                  obtain ⟨rfl, Fu2, R2, hi2, hm2, hkk, hf2⟩ := (HIW.out.alloc _).add hp
                  have hBX : (W.alloc (.cells #[.int .u64 oLo, .int .u64 oHi] 38)).heap[w2.heap.size]? = _ := (Below.heap_alloc _ _ _ hBl).trans HBW.out
                  have hBY := (hkk.block _ (Array.getElem?_eq_some_iff.1 hBX).1 HnB.out).trans hBX
                  have hOX : (W.alloc (.cells #[.int .u64 oLo, .int .u64 oHi] 38)).heap[W.heap.size]? = some (.cells #[.int .u64 oLo, .int .u64 oHi] 38 (0, 0)) := heap_alloc_new W _
                  have hOY := (hkk.block _ (Array.getElem?_eq_some_iff.1 hOX).1 HIW.out.fresh).trans hOX
                  obtain ⟨yB0, yB1, _⟩ := cell_struct hBY
                  obtain ⟨yO0, yO1, _⟩ := cell_struct hOY
                  have HI2 := (show Hid (Inn pu s Fu Ku nmu w1 Fu2 R2 (ii + jj + 1) w') from hi2)
                  have HBY := (show Hid (w'.heap[w2.heap.size]? = some (.cells #[.int .u64 sLo, .int .u64 sHi] 38 (0, 0))) from hBY)
                  have HnB2 : Hid (¬ Fu2 w2.heap.size) := fun h => HnB.out (hf2 _ (Array.getElem?_eq_some_iff.1 hBX).1 h)
                  have HM2 : Hid (∀ x, mem x R2 ↔ (mem x (Rc.take ii) ∨ ((Rc.getD ii (0, 0)).1 ≤ x ∧ x < oLo)) ∧ ¬ mem x Ro) := by
                    have h := diff_piece HCO.out HCC.out hlen.out HK.out Hl1.out HM.out (by rw [← HoLo.out]; exact hm2) (by rw [← HoLo.out]; exact hgt)
                    rw [← HoLo.out] at h
                    exact h
                  clear hp hi2 hm2 hkk hf2 hBX hBY hOX hOY cB0 cB1 qo0 qo1
                  by_cases hbr : sHi ≤ oHi
                  · go_wp2_with fail
                    go_meet
                    exact ⟨jj, lv, rfl, rfl, .inr ⟨rfl, out_break HCC.out hlen.out hjlen.out HK.out Hl2.out HI2.out HM2.out (by rw [← HoLo.out]; exact Int.le_refl _) (by rw [← HsHi.out]; omega) (by rw [← HsHi.out, ← HoHi.out]; exact hbr)⟩⟩
                  · go_wp2_with fail
                    go_roundw
                    case rel =>
                      refine ⟨jj + 1, oHi + 1, by go_num, by go_num, rfl, ?_⟩
                      have h := inn_next Hl1.out HK.out hjlen.out (by rw [← HsLo.out, ← HsHi.out]; exact HBY.out) HI2.out HnB2.out HM2.out (by rw [← HoLo.out]; exact Int.le_refl _) (by rw [← HoHi.out]; omega) (by omega) (by rw [← HsHi.out, ← HoHi.out]; omega)
                      rw [← HoHi.out] at h
                      exact h
                    case measure => simp [intOf]; omega
                · have HIX : Hid (Inn pu s Fu Ku nmu w1 Fu' R' (ii + jj + 1) (W.alloc (.cells #[.int .u64 oLo, .int .u64 oHi] 38))) := (HIW.out.alloc _).more (by omega)
                  have HBX : Hid ((W.alloc (.cells #[.int .u64 oLo, .int .u64 oHi] 38)).heap[w2.heap.size]? = some (.cells #[.int .u64 sLo, .int .u64 sHi] 38 (0, 0))) := (Below.heap_alloc _ _ _ hBl).trans HBW.out
                  by_cases hbr : sHi ≤ oHi
                  · go_wp2_with fail
                    go_meet
                    exact ⟨jj, lv, rfl, rfl, .inr ⟨rfl, out_break HCC.out hlen.out hjlen.out HK.out Hl2.out HIX.out HM.out (by rw [← HoLo.out]; omega) (by rw [← HsHi.out]; omega) (by rw [← HsHi.out, ← HoHi.out]; exact hbr)⟩⟩
                  · go_wp2_with fail
                    go_roundw
                    case rel =>
                      refine ⟨jj + 1, oHi + 1, by go_num, by go_num, rfl, ?_⟩
                      have h := inn_next Hl1.out HK.out hjlen.out (by rw [← HsLo.out, ← HsHi.out]; exact HBX.out) HIX.out HnB.out HM.out (by rw [← HoLo.out]; omega) (by rw [← HoHi.out]; omega) (by omega) (by rw [← HsHi.out, ← HoHi.out]; omega)
                      rw [← HoHi.out] at h
                      exact h
                    case measure => simp [intOf]; omega
            · have hd : decide (oLo ≤ sHi) = false := by simp [hle]
              have hd0 : decide ((jj : Int) < (no : Int)) = true := by simp; omega
              go_upto_region 5 with fail
              go_quiet (fail)
              have hInW : InnI pu s Fu Ku nmu Rc Ro w1 w2.heap.size ii jj lv (wr.drewN nq) := HInI.out.drewN nq
              have HInW := (show Hid (InnI pu s Fu Ku nmu Rc Ro w1 w2.heap.size ii jj lv (wr.drewN nq)) from hInW)
              clear hInW
              go_wp2_with fail
              go_meet
              exact ⟨jj, lv, rfl, rfl, .inl ⟨rfl, HInW.out, fun _ => by rw [← HsHi.out, ← HoLo.out]; omega⟩⟩
          · have hd0 : decide ((jj : Int) < (no : Int)) = false := by simp; omega
            go_upto_region 5 with fail
            go_quiet (fail)
            have hInW : InnI pu s Fu Ku nmu Rc Ro w1 w2.heap.size ii jj lv (wr.drewN nq) := HInI.out.drewN nq
            have HInW := (show Hid (InnI pu s Fu Ku nmu Rc Ro w1 w2.heap.size ii jj lv (wr.drewN nq)) from hInW)
            clear hInW
            go_wp2_with fail
            go_meet
            exact ⟨jj, lv, rfl, rfl, .inl ⟨rfl, HInW.out, fun h => by have := HNO.out; omega⟩⟩
      case rest =>
        obtain ⟨jj', lv, rfl, rfl, ⟨rfl, hend⟩ | ⟨rfl, hend⟩⟩ := hcut
        · obtain ⟨⟨hjj, hl1, hl2, hk, hB, Fu', R', hinn, hnB, hmem⟩, hlast⟩ := hend
          rw [← HsLo.out, ← HsHi.out] at hB
          rw [← HsHi.out] at hl2
          obtain ⟨_, cB1, _⟩ := cell_struct hB
          have hlv0 : 0 ≤ lv := by have := HsLo.out; omega
          have hlenR : ((upd Ku (key s) R') (key s)).length ≤ 1099511627776 := by rw [upd_same]; have := hinn.len; have := HNO.out; have := HNC.out; omega
          have hq : nmu + (ii + jj') < 1099511627776 := by have := HNO.out; omega
          have HI := (show Hid (Inn pu s Fu Ku nmu w1 Fu' R' (ii + jj') wc) from hinn)
          have HE := (show Hid _ from And.intro hjj (And.intro hl1 (And.intro hk (And.intro hmem hlast))))
          clear hjj hl1 hk hB hinn hnB hmem hlast
          go_wp2_with (go_at_call 20; refine (addSpan pu s lv sHi Fu' (upd Ku (key s) R') (nmu + (ii + jj')) wc hs hlv0 hl2 hb3 HI.out.clock hlenR hq).mono ?_)
          intro e w' hp
          obtain ⟨rfl, Fu2, R2, hi2, hm2, _, _⟩ := HI.out.add hp
          have HOut2 : Hid (OutI pu s Fu Ku nmu Rc Ro w1 (ii + 1) jj' w') := by
            obtain ⟨h1, h2, h3, h4, h5⟩ := HE.out
            exact out_last HCO.out HCC.out hlen.out h1 h3 h2 (by rw [← HsHi.out]; exact hl2) hi2 h4 (by rw [← HsHi.out]; exact hm2) h5
          clear hp hi2 hm2
          go_wp2_with fail
          go_roundw
          case rel => exact ⟨jj', ii + 1, rfl, by go_num, HOut2.out⟩
          case measure => simp [intOf]; omega
        · have HE := (show Hid (OutI pu s Fu Ku nmu Rc Ro w1 (ii + 1) jj' wc) from hend)
          clear hend
          go_wp2_with fail
          go_roundw
          case rel => exact ⟨jj', ii + 1, rfl, by go_num, HE.out⟩
          case measure => simp [intOf]; omega
    · have hii : ii = nc := by omega
      go_wp2_with fail
      go_end0
      obtain ⟨_, _, _, Fu', R', hinn, hmem⟩ := HOut.out
      have hk : Kept Fu w w2 := (HW1.out.mono (fun _ _ h => h.elim)).trans hinn.kept (fun _ _ h => h)
      have hfull : Rc.take ii = Rc := List.take_of_length_le (by rw [hii, HNC.out]; exact Nat.le_refl _)
      rw [hfull] at hmem
      refine ⟨rfl, hk, R', hmem, by have := hinn.len; have := HNC.out; have := HNO.out; omega, hinn.clock.mono (fun k h => (hinn.foot k h).imp id (fun h' => ⟨Nat.le_trans HW1.out.size h', hinn.clock.bound k h⟩)) (fun k h => h.elim (fun h => Nat.lt_of_lt_of_le (HFu.out k h) hk.size) (fun h => h.2)) (by have := HNC.out; have := HNO.out; omega)⟩
end Go.Proofs.Qxb6630298a
