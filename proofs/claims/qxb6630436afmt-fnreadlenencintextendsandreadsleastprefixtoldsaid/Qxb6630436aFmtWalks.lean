/-
  THE WALKS: the callees' contracts.
-/
import Derived.Test.Qxb6630436aFmtFacts
import Derived.Test.Qxb6630436aFmtParts
import Derived.WalkLawsBesides
namespace Go.Proofs.Qxb6630436aFmt
open Go.Extern.Stop Go.Stop Go.Extern Go.RowKit
attribute [local go_sem] call13 guard fmt1 fmt1r fmt2 fmt2r fmt3 fmt3r fmt4 fmt4r op3_100 op5_120

theorem truncated_any (f m : ByteArray) (T : TypeId) (v : Value) (w : World) (hg : w.cell? ⟨0, 0, none⟩ = some (.iface T v)) :
    Calls Tryf.prog 11 #[.string f, .string m] w fun e w' => ∃ a, e = .returned (.iface 39 (.pointer (some a))) ∧ Below w.heap.size w w' := by
  go_enter Tryf.func11, Tryf.ntmps11
  go_wp2
  go_ret
  exact ⟨_, rfl, (Below.refl _ _).alloc (Nat.le_refl _) _⟩

theorem malformed_any (f m : ByteArray) (w : World) :
    Calls Tryf.prog 12 #[.string f, .string m] w fun e w' => ∃ a, e = .returned (.iface 39 (.pointer (some a))) ∧ Below w.heap.size w w' := by
  go_enter Tryf.func12, Tryf.ntmps12
  go_wp2
  go_ret
  exact ⟨_, rfl, (Below.refl _ _).alloc (Nat.le_refl _) _⟩

theorem tooShort_any (F : Interp) (f : ByteArray) (n l : Int) (T : TypeId) (v : Value) (w : World) (hF : F.answers w.tape) (hg : w.cell? ⟨0, 0, none⟩ = some (.iface T v)) :
    Calls Tryf.prog 15 #[.string f, .int .i64 n, .int .i64 l] w fun e w' => ∃ a, e = .returned (.iface 39 (.pointer (some a))) ∧ Below w.heap.size w w' := by
  have hF' := answers_open hF
  have h0 : 0 < w.heap.size := World.block_lt_of_cell? w _ hg
  go_enter Tryf.func15, Tryf.ntmps15
  go_wp2_with fail
  refine (truncated_any _ _ T v _ (cell_later (((Below.refl _ _).alloc (Nat.le_refl _) _).drew) hg)).mono ?_
  rintro e w1 ⟨a, rfl, hb⟩
  go_wp2_with fail
  go_ret
  exact ⟨_, rfl, ((Below.refl _ _).alloc (Nat.le_refl _) _).drew.trans (hb.mono (by simp))⟩

/-- The elements of a slice of bytes, as the walks are told of them. -/
structure Bs (w : World) (a : Option Addr) (len : Nat) (zs : List Int) : Prop where
  hlen : zs.length = len
  byte : Bytes zs
  lie : 0 < len → ∃ b off, a = some ⟨b, off, none⟩ ∧ b < w.heap.size ∧ ∀ i, i < len → w.cell? ⟨b, off + i, none⟩ = some (.int .u8 (zs.getD i 0))
theorem Bs.later {w w' : World} {a : Option Addr} {len : Nat} {zs : List Int} (h : Bs w a len zs) (hb : Below w.heap.size w w') : Bs w' a len zs :=
  ⟨h.hlen, h.byte, fun h0 => by
    obtain ⟨b, off, h1, h2, h3⟩ := h.lie h0
    exact ⟨b, off, h1, Nat.lt_of_lt_of_le h2 hb.size, fun i hi => (hb.cell (p := ⟨b, off + i, none⟩) h2).trans (h3 i hi)⟩⟩

theorem width_ok (n : Int) (w : World) (h : n = 1 ∨ n = 2 ∨ n = 3 ∨ n = 8) : Calls Tryf.prog 14 #[.int .i64 n] w fun e w' => e = .returned (.tuple #[]) ∧ w' = w := by
  rcases h with rfl | rfl | rfl | rfl
  all_goals
    go_enter Tryf.func14, Tryf.ntmps14
    go_wp2
    go_end0
    exact ⟨rfl, rfl⟩

set_option maxHeartbeats 800000 in
theorem readUint_short (F : Interp) (a : Option Addr) (len cap : Nat) (n : Nat) (T : TypeId) (v : Value) (w : World) (hF : F.answers w.tape) (hg : w.cell? ⟨0, 0, none⟩ = some (.iface T v)) (hn : n = 1 ∨ n = 2 ∨ n = 3 ∨ n = 8) (h : len < n) :
    Calls Tryf.prog 10 #[.slice a len cap, .int .i64 n] w fun e w' => ∃ a, e = .returned (.tuple #[.int .u64 0, .iface 39 (.pointer (some a))]) ∧ Below w.heap.size w w' := by
  have hF' := answers_open hF
  have HN : Hid ((n : Int) = 1 ∨ (n : Int) = 2 ∨ (n : Int) = 3 ∨ (n : Int) = 8) := by rcases hn with rfl | rfl | rfl | rfl <;> simp [Hid]
  clear hn
  go_enter Tryf.func10, Tryf.ntmps10
  go_wp2_with fail
  refine (width_ok n _ HN.out).mono ?_
  rintro e w1 ⟨rfl, rfl⟩
  go_wp2_with fail
  refine (tooShort_any F _ _ _ T v _ ?_ ?_).mono ?_
  · exact hF
  · exact cell_later (((Below.refl _ _).alloc (Nat.le_refl _) _).drew) hg
  rintro e w2 ⟨a, rfl, hb⟩
  go_wp2_with fail
  go_ret2
  exact ⟨_, rfl, ((Below.refl _ _).alloc (Nat.le_refl _) _).drew.trans (hb.mono (by simp))⟩

set_option maxHeartbeats 800000 in
theorem readUint_ok (b off len cap : Nat) (n : Nat) (zs : List Int) (w : World) (hn : n = 1 ∨ n = 2 ∨ n = 3 ∨ n = 8) (h : n ≤ len) (hl : zs.length = len) (hB : Bytes zs)
    (hc : ∀ i, i < len → w.cell? ⟨b, off + i, none⟩ = some (.int .u8 (zs.getD i 0))) :
    Calls Tryf.prog 10 #[.slice (some ⟨b, off, none⟩) len cap, .int .i64 n] w fun e w' => e = .returned (.tuple #[.int .u64 (le (zs.take n)), .nilIface]) ∧ w' = w := by
  have HN : Hid ((n : Int) = 1 ∨ (n : Int) = 2 ∨ (n : Int) = 3 ∨ (n : Int) = 8) := by rcases hn with rfl | rfl | rfl | rfl <;> simp [Hid]
  have hn8 : n ≤ 8 := by omega
  have hn1 : 1 ≤ n := by omega
  have HC := (show Hid _ from hc)
  have HL := (show Hid _ from hl)
  have HB := (show Hid _ from hB)
  clear hn hc hl hB
  go_enter Tryf.func10, Tryf.ntmps10
  go_wp2_with fail
  refine (width_ok n _ HN.out).mono ?_
  rintro e w1 ⟨rfl, rfl⟩
  go_wp2_with fail
  go_loop [6, 7] (fun v i => ∃ k : Nat, k ≤ n ∧ i = .int .i64 ((k : Int) - 1) ∧ v = .int .u64 (le ((zs.take n).drop k))) (fun _ i => (intOf i + 1).toNat)
  case atStart => exact ⟨n, Nat.le_refl _, rfl, by rw [List.drop_of_length_le (by simp; omega)]; rfl⟩
  case round =>
    obtain ⟨k, hk, rfl, rfl⟩ := hrel
    by_cases h0 : 0 < k
    · have c := HC.out (k - 1) (by omega)
      have HS := (show Hid _ from or_step (zs := zs) HB.out n k h0 hk hn8 (by have := HL.out; omega))
      go_wp2
      go_round
      case rel => exact ⟨k - 1, by omega, by go_num, int_eq HS.out⟩
      case measure => simp [intOf]; omega
    · have hk0 : k = 0 := by omega
      subst hk0
      go_wp2
      go_ret2
      exact ⟨rfl, rfl⟩

theorem rl_nil (a : Option Addr) (cap : Nat) (T : TypeId) (v : Value) (w : World) (hg : w.cell? ⟨0, 0, none⟩ = some (.iface T v)) :
    Calls Tryf.prog 6 #[.slice a 0 cap] w fun e w' => ∃ a, e = .returned (.tuple #[.int .u64 0, .int .i64 0, .iface 39 (.pointer (some a))]) ∧ Below w.heap.size w w' := by
  go_enter Tryf.func6, Tryf.ntmps6
  go_wp2_with fail
  refine (truncated_any _ _ T v _ hg).mono ?_
  rintro e w1 ⟨a, rfl, hb⟩
  go_wp2_with fail
  go_ret3
  exact ⟨_, rfl, hb⟩

set_option maxHeartbeats 800000 in
theorem rl_small (b off len cap : Nat) (z : Int) (w : World) (h0 : 0 < len) (hz0 : 0 ≤ z) (hz : z < 251) (hc : w.cell? ⟨b, off, none⟩ = some (.int .u8 z)) :
    Calls Tryf.prog 6 #[.slice (some ⟨b, off, none⟩) len cap] w fun e w' => e = .returned (.tuple #[.int .u64 z, .int .i64 1, .nilIface]) ∧ w' = w := by
  have e0 : ((len : Int) == 0) = false := by simp; omega
  go_enter Tryf.func6, Tryf.ntmps6
  go_wp2
  go_ret3
  exact ⟨rfl, rfl⟩

set_option maxHeartbeats 800000 in
theorem rl_bad (F : Interp) (b off len cap : Nat) (z : Int) (w : World) (hF : F.answers w.tape) (h0 : 0 < len) (hz : z = 251 ∨ z = 255) (hc : w.cell? ⟨b, off, none⟩ = some (.int .u8 z)) :
    Calls Tryf.prog 6 #[.slice (some ⟨b, off, none⟩) len cap] w fun e w' => ∃ a, e = .returned (.tuple #[.int .u64 0, .int .i64 0, .iface 39 (.pointer (some a))]) ∧ Below w.heap.size w w' := by
  have hF' := answers_open hF
  have e0 : ((len : Int) == 0) = false := by simp; omega
  rcases hz with rfl | rfl
  all_goals
    go_enter Tryf.func6, Tryf.ntmps6
    go_wp2_with fail
    refine (malformed_any _ _ _).mono ?_
    rintro e w1 ⟨a, rfl, hb⟩
    go_wp2_with fail
    go_ret3
    exact ⟨_, rfl, ((Below.refl _ _).alloc (Nat.le_refl _) _).drew.trans (hb.mono (by simp))⟩

set_option maxHeartbeats 800000 in
theorem rl_short (F : Interp) (b off len cap : Nat) (z : Int) (n : Nat) (T : TypeId) (v : Value) (w : World) (hF : F.answers w.tape) (hg : w.cell? ⟨0, 0, none⟩ = some (.iface T v)) (h0 : 0 < len)
    (hz : z = 252 ∧ n = 2 ∨ z = 253 ∧ n = 3 ∨ z = 254 ∧ n = 8) (hn : len ≤ n) (hc : w.cell? ⟨b, off, none⟩ = some (.int .u8 z)) :
    Calls Tryf.prog 6 #[.slice (some ⟨b, off, none⟩) len cap] w fun e w' => ∃ a, e = .returned (.tuple #[.int .u64 0, .int .i64 0, .iface 39 (.pointer (some a))]) ∧ Below w.heap.size w w' := by
  have hF' := answers_open hF
  have e0 : ((len : Int) == 0) = false := by simp; omega
  rcases hz with ⟨rfl, rfl⟩ | ⟨rfl, rfl⟩ | ⟨rfl, rfl⟩
  all_goals
    go_enter Tryf.func6, Tryf.ntmps6
    go_wp2_with fail
    refine (truncated_any _ _ T v _ (cell_later (((Below.refl _ _).alloc (Nat.le_refl _) _).drew) hg)).mono ?_
    rintro e w1 ⟨a, rfl, hb⟩
    go_wp2_with fail
    go_ret3
    exact ⟨_, rfl, ((Below.refl _ _).alloc (Nat.le_refl _) _).drew.trans (hb.mono (by simp))⟩

set_option maxHeartbeats 800000 in
theorem rl_ok (b off len cap : Nat) (z : Int) (n : Nat) (zs : List Int) (w : World) (hz : z = 252 ∧ n = 2 ∨ z = 253 ∧ n = 3 ∨ z = 254 ∧ n = 8) (hn : n < len) (hm : len ≤ 1048576) (hcap : len ≤ cap) (hl : zs.length + 1 = len) (hB : Bytes zs)
    (hc : w.cell? ⟨b, off, none⟩ = some (.int .u8 z)) (hcs : ∀ i, i < zs.length → w.cell? ⟨b, off + 1 + i, none⟩ = some (.int .u8 (zs.getD i 0))) :
    Calls Tryf.prog 6 #[.slice (some ⟨b, off, none⟩) len cap] w fun e w' => e = .returned (.tuple #[.int .u64 (le (zs.take n)), .int .i64 (1 + n), .nilIface]) ∧ w' = w := by
  have e0 : ((len : Int) == 0) = false := by simp; omega
  have e1 : ¬ cap = 1 := by omega
  have hU := readUint_ok b (off + 1) (len - 1) (cap - 1) n zs w (by omega) (by omega) (by omega) hB (fun i hi => hcs i (by omega))
  clear hcs
  rcases hz with ⟨rfl, rfl⟩ | ⟨rfl, rfl⟩ | ⟨rfl, rfl⟩
  · have HU : Hid (Calls Tryf.prog 10 #[.slice (some ⟨b, off + 1, none⟩) (len - 1) (cap - 1), .int .i64 2] w fun e w' => e = .returned (.tuple #[.int .u64 (le (zs.take 2)), .nilIface]) ∧ w' = w) := hU
    clear hU
    go_enter Tryf.func6, Tryf.ntmps6
    go_wp2_with fail
    refine Calls.mono HU ?_
    rintro e w1 ⟨rfl, rfl⟩
    go_wp2_with fail
    go_ret3
    exact ⟨rfl, rfl⟩
  · have HU : Hid (Calls Tryf.prog 10 #[.slice (some ⟨b, off + 1, none⟩) (len - 1) (cap - 1), .int .i64 3] w fun e w' => e = .returned (.tuple #[.int .u64 (le (zs.take 3)), .nilIface]) ∧ w' = w) := hU
    clear hU
    go_enter Tryf.func6, Tryf.ntmps6
    go_wp2_with fail
    refine Calls.mono HU ?_
    rintro e w1 ⟨rfl, rfl⟩
    go_wp2_with fail
    go_ret3
    exact ⟨rfl, rfl⟩
  · have HU : Hid (Calls Tryf.prog 10 #[.slice (some ⟨b, off + 1, none⟩) (len - 1) (cap - 1), .int .i64 8] w fun e w' => e = .returned (.tuple #[.int .u64 (le (zs.take 8)), .nilIface]) ∧ w' = w) := hU
    clear hU
    go_enter Tryf.func6, Tryf.ntmps6
    go_wp2_with fail
    refine Calls.mono HU ?_
    rintro e w1 ⟨rfl, rfl⟩
    go_wp2_with fail
    go_ret3
    exact ⟨rfl, rfl⟩

theorem width_any (z : Int) (w : World) (h0 : 0 ≤ z) (h1 : z ≤ 255) : Calls Tryf.prog 7 #[.int .u8 z] w fun e w' => e = .returned (.int .i64 (wid z)) ∧ w' = w := by
  by_cases hz : z < 251
  · rw [show wid z = 0 from if_pos hz]
    go_enter Tryf.func7, Tryf.ntmps7
    go_wp2
    go_ret
    exact ⟨rfl, rfl⟩
  · rcases (by omega : z = 251 ∨ z = 252 ∨ z = 253 ∨ z = 254 ∨ z = 255) with rfl | rfl | rfl | rfl | rfl
    all_goals
      go_enter Tryf.func7, Tryf.ntmps7
      go_wp2
      go_ret
      exact ⟨rfl, rfl⟩

set_option maxHeartbeats 800000 in
theorem zzLE_any (b off len cap lo hi : Nat) (zs : List Int) (w : World) (hm : len ≤ 1048576) (h1 : lo ≤ hi) (h2 : hi ≤ len) (h8 : hi - lo ≤ 8) (hl : zs.length = len) (hB : Bytes zs)
    (hc : ∀ i, i < len → w.cell? ⟨b, off + i, none⟩ = some (.int .u8 (zs.getD i 0))) :
    Calls Tryf.prog 8 #[.slice (some ⟨b, off, none⟩) len cap, .int .i64 lo, .int .i64 hi] w fun e w' => e = .returned (.int .u64 (le ((zs.take hi).drop lo))) ∧ w' = w := by
  have HC := (show Hid _ from hc)
  have HL := (show Hid _ from hl)
  have HB := (show Hid _ from hB)
  clear hc hl hB
  go_enter Tryf.func8, Tryf.ntmps8
  go_wp2
  go_loop [7, 8, 9] (fun v u i => ∃ k : Nat, lo + k ≤ hi ∧ i = .int .i64 ((lo : Int) + k) ∧ v = .int .u64 (le ((zs.take (lo + k)).drop lo)) ∧ u = .int .u64 (256 ^ k % 18446744073709551616)) (fun _ _ i => hi - (intOf i).toNat)
  case atStart => exact ⟨0, by omega, by go_num, by rw [List.drop_of_length_le (by simp; omega)]; rfl, rfl⟩
  case round =>
    obtain ⟨k, hk, rfl, rfl, rfl⟩ := hrel
    by_cases h0 : lo + k < hi
    · have c := HC.out (lo + k) (by omega)
      have HS := (show Hid _ from le_acc (zs := zs) HB.out lo k (by omega) (by have := HL.out; omega))
      have HW := (show Hid _ from w_acc k (by omega))
      go_wp2
      go_round
      case rel => exact ⟨k + 1, by omega, by go_num, int_eq HS.out, int_eq HW.out⟩
      case measure => simp [intOf]; omega
    · have hk0 : lo + k = hi := by omega
      have HK : Hid (lo + k = hi) := hk0
      clear hk0
      go_wp2
      go_ret
      exact ⟨ret_int (by rw [HK.out]), rfl⟩

theorem bytesE_true (a b : Option Addr) (la ca lb cb : Nat) (w : World) (h : la + lb ≤ 1048576) :
    Calls Tryf.prog 5 #[.slice a la ca, .slice b lb cb] w fun e w' => e = .returned (.bool true) ∧ w' = w := by
  go_enter Tryf.func5, Tryf.ntmps5
  go_wp2
  go_ret
  exact ⟨rfl, rfl⟩
theorem bytesE_false (a b : Option Addr) (la ca lb cb : Nat) (w : World) (ha : la ≤ maxLen) (hb : lb ≤ maxLen) (h : 1048576 < la + lb) :
    Calls Tryf.prog 5 #[.slice a la ca, .slice b lb cb] w fun e w' => e = .returned (.bool false) ∧ w' = w := by
  unfold maxLen at ha hb
  go_enter Tryf.func5, Tryf.ntmps5
  go_wp2
  all_goals
    go_ret
    exact ⟨rfl, rfl⟩
theorem bytesA_true (a : Option Addr) (la ca : Nat) (w : World) (h : la ≤ 1048576) :
    Calls Tryf.prog 9 #[.slice a la ca] w fun e w' => e = .returned (.bool true) ∧ w' = w := by
  go_enter Tryf.func9, Tryf.ntmps9
  go_wp2
  go_ret
  exact ⟨rfl, rfl⟩
theorem bytesA_false (a : Option Addr) (la ca : Nat) (w : World) (ha : la ≤ maxLen) (h : 1048576 < la) :
    Calls Tryf.prog 9 #[.slice a la ca] w fun e w' => e = .returned (.bool false) ∧ w' = w := by
  unfold maxLen at ha
  go_enter Tryf.func9, Tryf.ntmps9
  go_wp2
  go_ret
  exact ⟨rfl, rfl⟩
end Go.Proofs.Qxb6630436aFmt
