/-
  THE WALK OF THE LAW 'FnReadLenencIntAgreesWithReadUint'.
-/
import Derived.Test.Qxb6630436aFmtWalks
import Derived.Laws.CopyOwn
namespace Go.Proofs.Qxb6630436aFmt
open Go.Extern.Stop Go.Stop Go.Extern Go.RowKit

theorem info5 : (Tryf.prog.info? 5).map (fun i => (i.zero, i.size, i.bytes)) = some (some (.int .u8 0), 1, 1) := by kernel_rfl
theorem size5 : (Tryf.prog.info? 5).map (·.size) = some 1 := by kernel_rfl

/-- A row that was made whole, as a list. -/
theorem made_row {w : World} {base e g n : Nat} {xs : List Value} (h : w.ownsRow base e 1 (.slice (some ⟨g, 0, none⟩) n n) n xs) : ∃ cur : List Value, cur.length = n ∧ w.heap[g]? = some (.cells cur.toArray e (0, 0)) := by
  rcases h.2 with ⟨h', _⟩ | ⟨g', cap', cur, h', _, hg, _, _, hs, _⟩
  · simp at h'
  · simp only [Value.slice.injEq, Option.some.injEq, Addr.mk.injEq, and_true, true_and] at h'
    obtain ⟨rfl, rfl⟩ := h'
    exact ⟨cur.toList, by simpa using hs, by simpa using hg⟩
/-- The cells of a row of bytes. -/
theorem row_bytes {w : World} {g e : Nat} {zs : List Int} (h : w.heap[g]? = some (.cells (zs.map (Value.int .u8)).toArray e (0, 0))) (hB : Bytes zs) : Bs w (some ⟨g, 0, none⟩) zs.length zs :=
  ⟨rfl, hB, fun _ => ⟨g, 0, rfl, (Array.getElem?_eq_some_iff.1 h).1, fun i hi => by
    rw [Nat.zero_add, cell_of_row w g i _ e (0, 0) h]; simp [List.getD, hi]⟩⟩
theorem splice_all {α : Type} (cur cs : List α) (h : cs.length = cur.length) : splice cur 0 cs = cs := by
  simp [splice, h]
/-- What the copy asks of the source. -/
theorem Bs.src {w : World} {a : Option Addr} {len : Nat} {zs : List Int} (h : Bs w a len zs) (dp : Option Addr) (g : Nat) (hd : dp = some ⟨g, 0, none⟩) :
    0 < (zs.map (Value.int .u8)).length → dp = some ⟨g, 0, none⟩ ∧ ∃ ad, a = some ad ∧ ∀ j v, (zs.map (Value.int .u8))[j]? = some v → w.cell? (ad.add j) = some v := by
  intro h0
  obtain ⟨b, off, ha, _, hc⟩ := h.lie (by have := h.hlen; simp at h0; omega)
  refine ⟨hd, _, ha, fun j v hj => ?_⟩
  have hjl : j < zs.length := by simpa using (List.getElem?_eq_some_iff.1 hj).1
  rw [Addr.add_lit, hc j (by have := h.hlen; omega)]
  rw [List.getElem?_map] at hj
  rw [List.getD, ← hj, List.getElem?_eq_getElem hjl]; rfl
theorem bytes_one (zs : List Int) : ∀ v ∈ zs.map (Value.int .u8), v.oneCell' = true := by
  intro v hv
  obtain ⟨_, _, rfl⟩ := List.mem_map.1 hv
  rfl

set_option maxRecDepth 100000 in
set_option maxHeartbeats 2000000 in
theorem agrees_nil (T : TypeId) (v : Value) (w : World) (hg : w.cell? ⟨0, 0, none⟩ = some (.iface T v)) :
    Calls Tryf.prog 4 #[.slice none 0 0] w fun e w' => e = .returned (.bool true) ∧ Below w.heap.size w w' := by
  go_enter Tryf.func4, Tryf.ntmps4
  go_wp2_with fail
  refine (bytesA_true _ _ _ _ (by omega)).mono ?_
  rintro e w1 ⟨rfl, rfl⟩
  go_wp2_with fail
  refine (rl_nil _ _ T v _ hg).mono ?_
  rintro e w2 ⟨a, rfl, hb⟩
  go_wp2_with fail
  go_ret
  exact ⟨rfl, hb⟩

set_option maxRecDepth 100000 in
set_option maxHeartbeats 2000000 in
theorem agrees_empty (F : Interp) (x : Addr) (cap : Nat) (T : TypeId) (v : Value) (w : World) (hF : F.answers w.tape) (hg : w.cell? ⟨0, 0, none⟩ = some (.iface T v)) :
    Calls Tryf.prog 4 #[.slice (some x) 0 cap] w fun e w' => e = .returned (.bool true) ∧ Below w.heap.size w w' := by
  have hm : 0 ≤ 1048576 := by omega
  have hB : Bs w (some x) 0 [] := ⟨rfl, fun z hz => by simp at hz, fun h => by omega⟩
  obtain ⟨i0, hi, hz0, hz1, hz2⟩ := info_parts info5
  obtain ⟨cs, hcs⟩ : ∃ cs, cs = ([] : List Int).map (Value.int .u8) := ⟨_, rfl⟩
  have HCS : Hid (cs = ([] : List Int).map (Value.int .u8)) := hcs
  have HB := (show Hid _ from hB)
  clear hB hcs
  go_enter Tryf.func4, Tryf.ntmps4
  go_wp2_with fail
  refine (bytesA_true _ _ _ _ hm).mono ?_
  rintro e w0 ⟨rfl, rfl⟩
  go_wp2_with (at_make; refine wpList_make_full _ rfl _ _ 22 rfl w0.heap.size 5 i0 _ 1 Tryf.underlying22 hi hz0 hz1 _ _ _ _ 0 rfl rfl ?c1 ?c2 ?c3 ?c4 ?c5 ?_)
  case c1 => rfl
  case c2 => rfl
  case c3 => rw [hz2]; omega
  case c4 => unfold maxLen; omega
  case c5 => exact Nat.le_refl _
  intro w1 ho1 hg1
  have hb1 : Below w0.heap.size w0 w1 := (Below.refl _ _).grown hg1 (Nat.le_refl _) (by simp)
  obtain ⟨cur, hcl, hcur⟩ := made_row ho1
  have HCL : Hid (cur.length = 0) := hcl
  have HB1 := (show Hid _ from HB.out.later hb1)
  clear ho1 hg1 hcl
  have HCUR := (show Hid _ from hcur)
  clear hcur
  go_wp2_with (refine wpList_copy_splice rfl (.tmp 23) (.tmp 24) 22 22 rfl 5 Tryf.underlying22 size5 _ _ _ _ _ _ rfl rfl w0.heap.size 0 cur 5 HCUR.out cs ?d1 ?d2 ?d3 ?d4 w0.heap.size w0 hb1 (Nat.le_refl _) ?_)
  case d1 => rw [HCS.out]; simp
  case d2 => rw [HCS.out]; intro h0; obtain ⟨_, ad, had, h⟩ := HB1.out.src _ w0.heap.size rfl h0; cases had; exact h
  case d3 => rw [HCS.out]; simp
  case d4 => rw [HCS.out]; exact bytes_one _
  intro w2 HG2 hb2
  have hF2 : F.answers w2.tape := by rw [hb2.tape]; exact hF
  have hg2 : w2.cell? ⟨0, 0, none⟩ = some (.iface T v) := cell_later hb2 hg
  have HB2 : Hid (Bs w2 (some ⟨w0.heap.size, 0, none⟩) 0 ([] : List Int)) := by
    have h := HG2.out
    rw [splice_all cur cs (by rw [HCS.out, HCL.out]; rfl), HCS.out] at h
    have h2 := row_bytes h HB1.out.byte
    rw [HB1.out.hlen] at h2
    exact h2
  clear HG2 HCL HB1 HCUR HCS HB hb1
  go_wp2_with fail
  refine (rl_nil _ _ T v _ hg2).mono ?_
  rintro e w3 ⟨a, rfl, hb3⟩
  go_wp2_with fail
  go_ret
  exact ⟨rfl, hb2.trans (hb3.mono hb2.size)⟩

set_option maxRecDepth 100000 in
set_option maxHeartbeats 8000000 in
theorem agrees_cons (F : Interp) (x : Addr) (len cap : Nat) (z : Int) (r : List Int) (T : TypeId) (v : Value) (w : World) (hF : F.answers w.tape) (hg : w.cell? ⟨0, 0, none⟩ = some (.iface T v)) (hB : Bs w (some x) len (z :: r)) (hm : len ≤ 1048576) :
    Calls Tryf.prog 4 #[.slice (some x) len cap] w fun e w' => e = .returned (.bool true) ∧ Below w.heap.size w w' := by
  obtain ⟨i0, hi, hz0, hz1, hz2⟩ := info_parts info5
  obtain ⟨cs, hcs⟩ : ∃ cs, cs = (z :: r).map (Value.int .u8) := ⟨_, rfl⟩
  have HCS : Hid (cs = (z :: r).map (Value.int .u8)) := hcs
  have HB := (show Hid _ from hB)
  clear hB hcs
  go_enter Tryf.func4, Tryf.ntmps4
  go_wp2_with fail
  refine (bytesA_true _ _ _ _ hm).mono ?_
  rintro e w0 ⟨rfl, rfl⟩
  go_wp2_with (at_make; refine wpList_make_full _ rfl _ _ 22 rfl w0.heap.size 5 i0 _ 1 Tryf.underlying22 hi hz0 hz1 _ _ _ _ len rfl rfl ?c1 ?c2 ?c3 ?c4 ?c5 ?_)
  case c1 => rfl
  case c2 => rfl
  case c3 => rw [hz2]; omega
  case c4 => unfold maxLen; omega
  case c5 => exact Nat.le_refl _
  intro w1 ho1 hg1
  have hb1 : Below w0.heap.size w0 w1 := (Below.refl _ _).grown hg1 (Nat.le_refl _) (by simp)
  obtain ⟨cur, hcl, hcur⟩ := made_row ho1
  have HCL : Hid (cur.length = len) := hcl
  have HB1 := (show Hid _ from HB.out.later hb1)
  clear ho1 hg1 hcl
  have HCUR := (show Hid _ from hcur)
  clear hcur
  go_wp2_with (refine wpList_copy_splice rfl (.tmp 23) (.tmp 24) 22 22 rfl 5 Tryf.underlying22 size5 _ _ _ _ _ _ rfl rfl w0.heap.size 0 cur 5 HCUR.out cs ?d1 ?d2 ?d3 ?d4 w0.heap.size w0 hb1 (Nat.le_refl _) ?_)
  case d1 => rw [HCS.out]; have := HB1.out.hlen; simp at this ⊢; omega
  case d2 => rw [HCS.out]; intro h0; obtain ⟨_, ad, had, h⟩ := HB1.out.src _ w0.heap.size rfl h0; cases had; exact h
  case d3 => rw [HCS.out]; have h1 := HB1.out.hlen; have h2 := HCL.out; simp at h1 ⊢; omega
  case d4 => rw [HCS.out]; exact bytes_one _
  intro w2 HG2 hb2
  have hF2 : F.answers w2.tape := by rw [hb2.tape]; exact hF
  have hg2 : w2.cell? ⟨0, 0, none⟩ = some (.iface T v) := cell_later hb2 hg
  have HB2 : Hid (Bs w2 (some ⟨w0.heap.size, 0, none⟩) len (z :: r)) := by
    have h := HG2.out
    rw [splice_all cur cs (by rw [HCS.out, HCL.out]; have := HB1.out.hlen; simpa using this), HCS.out] at h
    have h2 := row_bytes h HB1.out.byte
    rw [HB1.out.hlen] at h2
    exact h2
  clear HG2 HCL HB1 HCUR HCS HB hb1
  go_wp2_with fail
  have hlr : r.length + 1 = len := by have := HB2.out.hlen; simpa using this
  have HLR : Hid (r.length + 1 = len) := hlr
  obtain ⟨b, off, ha, _, hc⟩ := HB2.out.lie (by omega)
  simp only [Option.some.injEq, Addr.mk.injEq, and_true] at ha
  obtain ⟨rfl, rfl⟩ := ha
  have hBz : Bytes (z :: r) := HB2.out.byte
  have hBr : Bytes r := hBz.tail
  have hz := hBz z (by simp)
  have call : ∀ i, i < len → w2.cell? ⟨w0.heap.size, i, none⟩ = some (.int .u8 ((z :: r).getD i 0)) := fun i hi => by have := hc i hi; rwa [Nat.zero_add] at this
  have cz : w2.cell? ⟨w0.heap.size, 0, none⟩ = some (.int .u8 z) := call 0 (by omega)
  have cr : ∀ i, i < r.length → w2.cell? ⟨w0.heap.size, 1 + i, none⟩ = some (.int .u8 (r.getD i 0)) := fun i hi => by
    have := call (1 + i) (by omega); rw [this]; congr 2; rw [Nat.add_comm]; simp [List.getD]
  clear hc HB2
  by_cases hs : z < 251
  · have hrl := rl_small w0.heap.size 0 len len z w2 (by omega) hz.1 hs cz
    have hru := readUint_ok w0.heap.size 0 len len 1 (z :: r) w2 (by omega) (by omega) (by simpa using hlr) hBz (fun i hi => by rw [Nat.zero_add]; exact call i hi)
    have e1 : le ((z :: r).take 1) = z := by simp [le]
    rw [e1] at hru
    have HRU : Hid (Calls Tryf.prog 10 #[.slice (some ⟨w0.heap.size, 0, none⟩) len len, .int .i64 1] w2 fun e w' => e = .returned (.tuple #[.int .u64 z, .nilIface]) ∧ w' = w2) := hru
    have hz0' := hz.1
    have hl0 : 0 < len := by omega
    clear hru e1 cr call hBz hBr hlr
    refine hrl.mono ?_
    rintro e w3 ⟨rfl, hw3⟩
    rw [hw3]
    clear hw3 hrl
    go_wp2_with fail
    refine (width_any z _ (by omega) (by omega)).mono ?_
    rintro e w3 ⟨rfl, hw3⟩
    rw [hw3, show wid z = 0 from if_pos hs]
    clear hw3
    go_wp2_with fail
    refine Calls.mono HRU ?_
    rintro e w3 ⟨rfl, hw3⟩
    rw [hw3]
    clear hw3
    go_wp2_with fail
    go_ret
    exact ⟨rfl, hb2⟩
  · by_cases hbad : z = 251 ∨ z = 255
    · have hrl := rl_bad F w0.heap.size 0 len len z w2 hF2 (by omega) hbad cz
      have HZ : Hid (wid z = -1) := by rcases hbad with rfl | rfl <;> rfl
      have hl0 : 0 < len := by omega
      clear cr call hBz hBr hlr
      refine hrl.mono ?_
      rintro e w3 ⟨a, rfl, hb3⟩
      have cz := cell_later hb3 cz
      clear hrl
      go_wp2_with fail
      refine (width_any z _ (by omega) (by omega)).mono ?_
      rintro e w4 ⟨rfl, hw4⟩
      rw [hw4, HZ.out]
      clear hw4
      go_wp2_with fail
      go_ret
      exact ⟨rfl, hb2.trans (hb3.mono hb2.size)⟩
    · have hz3 : z = 252 ∨ z = 253 ∨ z = 254 := by omega
      clear hbad hs hz
      rcases hz3 with rfl | rfl | rfl
      · by_cases hn : 2 ≤ r.length
        · -- the value lies behind the marker 252
          have hrl := rl_ok w0.heap.size 0 len len 252 2 r w2 (by omega) (by omega) hm (Nat.le_refl _) hlr hBr cz (fun i hi => by have := cr i hi; rw [show 0 + 1 + i = 1 + i by omega]; exact this)
          have hru := readUint_ok w0.heap.size 1 (len - 1) (len - 1) 2 r w2 (by omega) (by omega) (by omega) hBr (fun i hi => cr i (by omega))
          have hzl := zzLE_any w0.heap.size 0 len len 1 3 (252 :: r) w2 hm (by omega) (by omega) (by omega) (by simpa using hlr) hBz (fun i hi => by rw [Nat.zero_add]; exact call i hi)
          have ezl : ((252 :: r : List Int).take 3).drop 1 = r.take 2 := by simp
          rw [ezl] at hzl
          have HRL : Hid (Calls Tryf.prog 6 #[.slice (some ⟨w0.heap.size, 0, none⟩) len len] w2 fun e w' => e = .returned (.tuple #[.int .u64 (le (r.take 2)), .int .i64 3, .nilIface]) ∧ w' = w2) := hrl
          have HRU : Hid (Calls Tryf.prog 10 #[.slice (some ⟨w0.heap.size, 1, none⟩) (len - 1) (len - 1), .int .i64 2] w2 fun e w' => e = .returned (.tuple #[.int .u64 (le (r.take 2)), .nilIface]) ∧ w' = w2) := hru
          have HZL : Hid (Calls Tryf.prog 8 #[.slice (some ⟨w0.heap.size, 0, none⟩) len len, .int .i64 1, .int .i64 3] w2 fun e w' => e = .returned (.int .u64 (le (r.take 2))) ∧ w' = w2) := hzl
          have hlb := le_bd (hBr.take 2)
          rw [show (r.take 2).length = 2 by simp; omega] at hlb
          have hr1 : ¬ len = 1 := by omega
          obtain ⟨V, hV⟩ : ∃ V, V = le (r.take 2) := ⟨_, rfl⟩
          rw [← hV] at HRL HRU HZL hlb
          have hnl : 2 < len := by omega
          clear hrl hru hzl ezl hV cr call hlr hn hBz hBr
          have hlb2 : 0 ≤ V ∧ V < 65536 := hlb
          clear hlb
          refine Calls.mono HRL ?_
          rintro e w3 ⟨rfl, hw3⟩
          rw [hw3]
          clear hw3
          go_wp2_with fail
          refine (width_any 252 _ (by omega) (by omega)).mono ?_
          rintro e w3 ⟨rfl, hw3⟩
          rw [hw3, show wid 252 = 2 from rfl]
          clear hw3
          go_wp2_with fail
          refine Calls.mono HRU ?_
          rintro e w3 ⟨rfl, hw3⟩
          rw [hw3]
          clear hw3
          go_wp2_with fail
          refine Calls.mono HZL ?_
          rintro e w3 ⟨rfl, hw3⟩
          rw [hw3]
          clear hw3
          go_wp2_with fail
          go_ret
          exact ⟨rfl, hb2⟩
        · -- too few bytes behind the marker 252
          have hrl := rl_short F w0.heap.size 0 len len 252 2 T v w2 hF2 hg2 (by omega) (by omega) (by omega) cz
          have hnl : len ≤ 2 := by omega
          have hl0 : 0 < len := by omega
          clear cr call hlr hn hBz hBr
          refine hrl.mono ?_
          rintro e w3 ⟨a, rfl, hb3⟩
          clear hrl
          have cz := cell_later hb3 cz
          have hg3 := cell_later hb3 hg2
          have hF3 : F.answers w3.tape := by rw [hb3.tape]; exact hF2
          go_wp2_with fail
          refine (width_any 252 _ (by omega) (by omega)).mono ?_
          rintro e w4 ⟨rfl, hw4⟩
          rw [hw4, show wid 252 = 2 from rfl]
          clear hw4
          by_cases hr0 : len = 1
          · have hr1 : len = 1 := by omega
            go_wp2_with fail
            refine (readUint_short F _ _ _ 2 T v w3 hF3 hg3 (by omega) (by omega)).mono ?_
            rintro e w5 ⟨a5, rfl, hb5⟩
            go_wp2_with fail
            go_ret
            exact ⟨rfl, (hb2.trans (hb3.mono hb2.size)).trans (hb5.mono (by have := hb2.size; have := hb3.size; omega))⟩
          · have hr1 : ¬ len = 1 := by omega
            go_wp2_with fail
            refine (readUint_short F _ _ _ 2 T v w3 hF3 hg3 (by omega) (by omega)).mono ?_
            rintro e w5 ⟨a5, rfl, hb5⟩
            go_wp2_with fail
            go_ret
            exact ⟨ret_true (by simp; omega), (hb2.trans (hb3.mono hb2.size)).trans (hb5.mono (by have := hb2.size; have := hb3.size; omega))⟩
      · by_cases hn : 3 ≤ r.length
        · -- the value lies behind the marker 253
          have hrl := rl_ok w0.heap.size 0 len len 253 3 r w2 (by omega) (by omega) hm (Nat.le_refl _) hlr hBr cz (fun i hi => by have := cr i hi; rw [show 0 + 1 + i = 1 + i by omega]; exact this)
          have hru := readUint_ok w0.heap.size 1 (len - 1) (len - 1) 3 r w2 (by omega) (by omega) (by omega) hBr (fun i hi => cr i (by omega))
          have hzl := zzLE_any w0.heap.size 0 len len 1 4 (253 :: r) w2 hm (by omega) (by omega) (by omega) (by simpa using hlr) hBz (fun i hi => by rw [Nat.zero_add]; exact call i hi)
          have ezl : ((253 :: r : List Int).take 4).drop 1 = r.take 3 := by simp
          rw [ezl] at hzl
          have HRL : Hid (Calls Tryf.prog 6 #[.slice (some ⟨w0.heap.size, 0, none⟩) len len] w2 fun e w' => e = .returned (.tuple #[.int .u64 (le (r.take 3)), .int .i64 4, .nilIface]) ∧ w' = w2) := hrl
          have HRU : Hid (Calls Tryf.prog 10 #[.slice (some ⟨w0.heap.size, 1, none⟩) (len - 1) (len - 1), .int .i64 3] w2 fun e w' => e = .returned (.tuple #[.int .u64 (le (r.take 3)), .nilIface]) ∧ w' = w2) := hru
          have HZL : Hid (Calls Tryf.prog 8 #[.slice (some ⟨w0.heap.size, 0, none⟩) len len, .int .i64 1, .int .i64 4] w2 fun e w' => e = .returned (.int .u64 (le (r.take 3))) ∧ w' = w2) := hzl
          have hlb := le_bd (hBr.take 3)
          rw [show (r.take 3).length = 3 by simp; omega] at hlb
          have hr1 : ¬ len = 1 := by omega
          obtain ⟨V, hV⟩ : ∃ V, V = le (r.take 3) := ⟨_, rfl⟩
          rw [← hV] at HRL HRU HZL hlb
          have hnl : 3 < len := by omega
          clear hrl hru hzl ezl hV cr call hlr hn hBz hBr
          have hlb2 : 0 ≤ V ∧ V < 16777216 := hlb
          clear hlb
          refine Calls.mono HRL ?_
          rintro e w3 ⟨rfl, hw3⟩
          rw [hw3]
          clear hw3
          go_wp2_with fail
          refine (width_any 253 _ (by omega) (by omega)).mono ?_
          rintro e w3 ⟨rfl, hw3⟩
          rw [hw3, show wid 253 = 3 from rfl]
          clear hw3
          go_wp2_with fail
          refine Calls.mono HRU ?_
          rintro e w3 ⟨rfl, hw3⟩
          rw [hw3]
          clear hw3
          go_wp2_with fail
          refine Calls.mono HZL ?_
          rintro e w3 ⟨rfl, hw3⟩
          rw [hw3]
          clear hw3
          go_wp2_with fail
          go_ret
          exact ⟨rfl, hb2⟩
        · -- too few bytes behind the marker 253
          have hrl := rl_short F w0.heap.size 0 len len 253 3 T v w2 hF2 hg2 (by omega) (by omega) (by omega) cz
          have hnl : len ≤ 3 := by omega
          have hl0 : 0 < len := by omega
          clear cr call hlr hn hBz hBr
          refine hrl.mono ?_
          rintro e w3 ⟨a, rfl, hb3⟩
          clear hrl
          have cz := cell_later hb3 cz
          have hg3 := cell_later hb3 hg2
          have hF3 : F.answers w3.tape := by rw [hb3.tape]; exact hF2
          go_wp2_with fail
          refine (width_any 253 _ (by omega) (by omega)).mono ?_
          rintro e w4 ⟨rfl, hw4⟩
          rw [hw4, show wid 253 = 3 from rfl]
          clear hw4
          by_cases hr0 : len = 1
          · have hr1 : len = 1 := by omega
            go_wp2_with fail
            refine (readUint_short F _ _ _ 3 T v w3 hF3 hg3 (by omega) (by omega)).mono ?_
            rintro e w5 ⟨a5, rfl, hb5⟩
            go_wp2_with fail
            go_ret
            exact ⟨rfl, (hb2.trans (hb3.mono hb2.size)).trans (hb5.mono (by have := hb2.size; have := hb3.size; omega))⟩
          · have hr1 : ¬ len = 1 := by omega
            go_wp2_with fail
            refine (readUint_short F _ _ _ 3 T v w3 hF3 hg3 (by omega) (by omega)).mono ?_
            rintro e w5 ⟨a5, rfl, hb5⟩
            go_wp2_with fail
            go_ret
            exact ⟨ret_true (by simp; omega), (hb2.trans (hb3.mono hb2.size)).trans (hb5.mono (by have := hb2.size; have := hb3.size; omega))⟩
      · by_cases hn : 8 ≤ r.length
        · -- the value lies behind the marker 254
          have hrl := rl_ok w0.heap.size 0 len len 254 8 r w2 (by omega) (by omega) hm (Nat.le_refl _) hlr hBr cz (fun i hi => by have := cr i hi; rw [show 0 + 1 + i = 1 + i by omega]; exact this)
          have hru := readUint_ok w0.heap.size 1 (len - 1) (len - 1) 8 r w2 (by omega) (by omega) (by omega) hBr (fun i hi => cr i (by omega))
          have hzl := zzLE_any w0.heap.size 0 len len 1 9 (254 :: r) w2 hm (by omega) (by omega) (by omega) (by simpa using hlr) hBz (fun i hi => by rw [Nat.zero_add]; exact call i hi)
          have ezl : ((254 :: r : List Int).take 9).drop 1 = r.take 8 := by simp
          rw [ezl] at hzl
          have HRL : Hid (Calls Tryf.prog 6 #[.slice (some ⟨w0.heap.size, 0, none⟩) len len] w2 fun e w' => e = .returned (.tuple #[.int .u64 (le (r.take 8)), .int .i64 9, .nilIface]) ∧ w' = w2) := hrl
          have HRU : Hid (Calls Tryf.prog 10 #[.slice (some ⟨w0.heap.size, 1, none⟩) (len - 1) (len - 1), .int .i64 8] w2 fun e w' => e = .returned (.tuple #[.int .u64 (le (r.take 8)), .nilIface]) ∧ w' = w2) := hru
          have HZL : Hid (Calls Tryf.prog 8 #[.slice (some ⟨w0.heap.size, 0, none⟩) len len, .int .i64 1, .int .i64 9] w2 fun e w' => e = .returned (.int .u64 (le (r.take 8))) ∧ w' = w2) := hzl
          have hlb := le_bd (hBr.take 8)
          rw [show (r.take 8).length = 8 by simp; omega] at hlb
          have hr1 : ¬ len = 1 := by omega
          obtain ⟨V, hV⟩ : ∃ V, V = le (r.take 8) := ⟨_, rfl⟩
          rw [← hV] at HRL HRU HZL hlb
          have hnl : 8 < len := by omega
          clear hrl hru hzl ezl hV cr call hlr hn hBz hBr
          have hlb2 : 0 ≤ V ∧ V < 18446744073709551616 := hlb
          clear hlb
          refine Calls.mono HRL ?_
          rintro e w3 ⟨rfl, hw3⟩
          rw [hw3]
          clear hw3
          go_wp2_with fail
          refine (width_any 254 _ (by omega) (by omega)).mono ?_
          rintro e w3 ⟨rfl, hw3⟩
          rw [hw3, show wid 254 = 8 from rfl]
          clear hw3
          go_wp2_with fail
          refine Calls.mono HRU ?_
          rintro e w3 ⟨rfl, hw3⟩
          rw [hw3]
          clear hw3
          go_wp2_with fail
          refine Calls.mono HZL ?_
          rintro e w3 ⟨rfl, hw3⟩
          rw [hw3]
          clear hw3
          go_wp2_with fail
          go_ret
          exact ⟨rfl, hb2⟩
        · -- too few bytes behind the marker 254
          have hrl := rl_short F w0.heap.size 0 len len 254 8 T v w2 hF2 hg2 (by omega) (by omega) (by omega) cz
          have hnl : len ≤ 8 := by omega
          have hl0 : 0 < len := by omega
          clear cr call hlr hn hBz hBr
          refine hrl.mono ?_
          rintro e w3 ⟨a, rfl, hb3⟩
          clear hrl
          have cz := cell_later hb3 cz
          have hg3 := cell_later hb3 hg2
          have hF3 : F.answers w3.tape := by rw [hb3.tape]; exact hF2
          go_wp2_with fail
          refine (width_any 254 _ (by omega) (by omega)).mono ?_
          rintro e w4 ⟨rfl, hw4⟩
          rw [hw4, show wid 254 = 8 from rfl]
          clear hw4
          by_cases hr0 : len = 1
          · have hr1 : len = 1 := by omega
            go_wp2_with fail
            refine (readUint_short F _ _ _ 8 T v w3 hF3 hg3 (by omega) (by omega)).mono ?_
            rintro e w5 ⟨a5, rfl, hb5⟩
            go_wp2_with fail
            go_ret
            exact ⟨rfl, (hb2.trans (hb3.mono hb2.size)).trans (hb5.mono (by have := hb2.size; have := hb3.size; omega))⟩
          · have hr1 : ¬ len = 1 := by omega
            go_wp2_with fail
            refine (readUint_short F _ _ _ 8 T v w3 hF3 hg3 (by omega) (by omega)).mono ?_
            rintro e w5 ⟨a5, rfl, hb5⟩
            go_wp2_with fail
            go_ret
            exact ⟨ret_true (by simp; omega), (hb2.trans (hb3.mono hb2.size)).trans (hb5.mono (by have := hb2.size; have := hb3.size; omega))⟩
end Go.Proofs.Qxb6630436aFmt
