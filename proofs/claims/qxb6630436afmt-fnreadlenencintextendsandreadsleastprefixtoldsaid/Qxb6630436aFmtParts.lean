/-
  PLAIN LAWS: little-endian numbers out of bytes. No Go in sight.
-/
import Derived.WalkKit
import Derived.Laws.BitsAllLaws
import Derived.Laws.Bits64
namespace Go.Proofs.Qxb6630436aFmt
open Go.RowKit

theorem ret_int {k : IntKind} {a b : Int} (h : a = b) : Ending.returned (.int k a) = .returned (.int k b) := by rw [h]
theorem int_eq {k : IntKind} {a b : Int} (h : a = b) : Value.int k a = .int k b := by rw [h]
theorem ret_true {b : Bool} (h : b = true) : Ending.returned (.bool b) = .returned (.bool true) := by rw [h]

/-- The little-endian value. -/
def le : List Int → Int
  | [] => 0
  | x :: r => x + 256 * le r
/-- Every one is a byte. -/
def Bytes (zs : List Int) : Prop := ∀ z ∈ zs, 0 ≤ z ∧ z ≤ 255
theorem Bytes.at {zs : List Int} (h : Bytes zs) (k : Nat) : 0 ≤ zs.getD k 0 ∧ zs.getD k 0 ≤ 255 := by
  by_cases hk : k < zs.length
  · exact h _ (by simp [List.getD, hk])
  · simp [List.getD, hk]
theorem Bytes.take {zs : List Int} (h : Bytes zs) (k : Nat) : Bytes (zs.take k) := fun z hz => h z (List.mem_of_mem_take hz)
theorem Bytes.drop {zs : List Int} (h : Bytes zs) (k : Nat) : Bytes (zs.drop k) := fun z hz => h z (List.mem_of_mem_drop hz)
theorem Bytes.tail {z : Int} {zs : List Int} (h : Bytes (z :: zs)) : Bytes zs := fun x hx => h x (by simp [hx])
theorem le_bd {zs : List Int} (h : Bytes zs) : 0 ≤ le zs ∧ le zs < 256 ^ zs.length := by
  induction zs with
  | nil => simp [le]
  | cons z r ih =>
    have h1 := ih h.tail
    have h2 := h z (by simp)
    have e : (256 : Int) ^ (z :: r).length = 256 ^ r.length * 256 := by rw [List.length_cons, Int.pow_succ]
    rw [e, le]
    omega
theorem le_drop (zs : List Int) (k : Nat) (h : k < zs.length) : le (zs.drop k) = zs.getD k 0 + 256 * le (zs.drop (k + 1)) := by
  rw [List.drop_eq_getElem_cons h, le]; simp [List.getD, h]
/-- The sum by ascending weights, of the first k. -/
theorem le_snoc (zs : List Int) (z : Int) : le (zs ++ [z]) = le zs + 256 ^ zs.length * z := by
  induction zs with
  | nil => simp [le]
  | cons x r ih =>
    simp only [List.cons_append, le, ih, List.length_cons, Int.pow_succ]
    rw [Int.mul_add, show (256 : Int) * (256 ^ r.length * z) = 256 ^ r.length * 256 * z by rw [← Int.mul_assoc, Int.mul_comm 256 (256 ^ r.length)]]
    omega
theorem le_take (zs : List Int) (k : Nat) (h : k < zs.length) : le (zs.take (k + 1)) = le (zs.take k) + 256 ^ k * zs.getD k 0 := by
  rw [List.take_succ_eq_append_getElem h, le_snoc]; simp [List.getD, h, Nat.min_eq_left (Nat.le_of_lt h)]

/-- 'v<<8 | x'. -/
theorem or_byte (v x : Int) (h0 : 0 ≤ v) (h1 : v < 72057594037927936) (h2 : 0 ≤ x) (h3 : x ≤ 255) :
    bits BinOp.or IntKind.u64 (IntKind.u64.wrap (v * 256)) (IntKind.u64.wrap x) = x + 256 * v := by
  rw [IntKind.wrap_u64, IntKind.wrap_u64, Int.emod_eq_of_lt (by omega) (by omega), Int.emod_eq_of_lt (by omega) (by omega)]
  rw [u64_or _ _ (by omega) (by omega) h2 (by omega)]
  obtain ⟨a, rfl⟩ := Int.eq_ofNat_of_zero_le h0
  obtain ⟨b, rfl⟩ := Int.eq_ofNat_of_zero_le h2
  have e1 : ((a : Int) * 256).toNat = a <<< 8 := by rw [Nat.shiftLeft_eq]; omega
  have e2 : ((b : Int)).toNat = b := by omega
  rw [e1, e2, ← Nat.shiftLeft_add_eq_or_of_lt (by omega : b < 2 ^ 8), Nat.shiftLeft_eq]
  omega
theorem pow_small (k : Nat) (h : k ≤ 7) : (256 : Int) ^ k ≤ 72057594037927936 := by
  match k, h with
  | 0, _ => decide
  | 1, _ => decide
  | 2, _ => decide
  | 3, _ => decide
  | 4, _ => decide
  | 5, _ => decide
  | 6, _ => decide
  | 7, _ => decide
/-- One round of ReadUint. -/
theorem or_step {zs : List Int} (hB : Bytes zs) (n k : Nat) (hk : 0 < k) (hkn : k ≤ n) (h8 : n ≤ 8) (hn : n ≤ zs.length) :
    bits BinOp.or IntKind.u64 (IntKind.u64.wrap (le ((zs.take n).drop k) * 256)) (IntKind.u64.wrap (zs.getD (k - 1) 0)) = le ((zs.take n).drop (k - 1)) := by
  have hb := le_bd ((hB.take n).drop k)
  have hx := hB.at (k - 1)
  have hl : ((zs.take n).drop k).length = n - k := by simp; omega
  rw [hl] at hb
  have hp := pow_small (n - k) (by omega)
  rw [or_byte _ _ hb.1 (by omega) hx.1 hx.2, le_drop (zs.take n) (k - 1) (by simp; omega), show k - 1 + 1 = k by omega]
  have e : (zs.take n).getD (k - 1) 0 = zs.getD (k - 1) 0 := by simp [List.getD, show k - 1 < n by omega]
  rw [e]

theorem pow_mod (k : Nat) (h : k ≤ 7) : (256 : Int) ^ k % 18446744073709551616 = 256 ^ k := by
  have h1 := pow_small k h
  have h2 : 0 < (256 : Int) ^ k := Int.pow_pos (by decide)
  omega
theorem w_acc (k : Nat) (h : k ≤ 7) : IntKind.u64.wrap ((256 : Int) ^ k % 18446744073709551616 * 256) = 256 ^ (k + 1) % 18446744073709551616 := by
  rw [IntKind.wrap_u64, pow_mod k h, Int.pow_succ]
theorem le_acc {zs : List Int} (hB : Bytes zs) (lo k : Nat) (hk : k ≤ 7) (h : lo + k < zs.length) :
    IntKind.u64.wrap (le ((zs.take (lo + k)).drop lo) + IntKind.u64.wrap (IntKind.u64.wrap (zs.getD (lo + k) 0) * (256 ^ k % 18446744073709551616))) = le ((zs.take (lo + (k + 1))).drop lo) := by
  have e : ∀ j, (zs.take (lo + j)).drop lo = (zs.drop lo).take j := fun j => by rw [List.drop_take]; congr 1; omega
  rw [e, e, pow_mod k hk, IntKind.wrap_u64, IntKind.wrap_u64, IntKind.wrap_u64]
  have hx := hB.at (lo + k)
  have hg : (zs.drop lo).getD k 0 = zs.getD (lo + k) 0 := by simp [List.getD]
  have hs := le_take (zs.drop lo) k (by simp; omega)
  rw [hg] at hs
  have h1 := le_bd ((hB.drop lo).take (k + 1))
  have hl : ((zs.drop lo).take (k + 1)).length = k + 1 := by simp; omega
  rw [hl, Int.pow_succ] at h1
  have h0 := le_bd ((hB.drop lo).take k)
  have hp := pow_small k hk
  have hq : 0 < (256 : Int) ^ k := Int.pow_pos (by decide)
  obtain ⟨x, hxe⟩ : ∃ x, x = zs.getD (lo + k) 0 := ⟨_, rfl⟩
  rw [← hxe] at hx hs ⊢
  rw [Int.emod_eq_of_lt hx.1 (by omega)]
  have hm : x * 256 ^ k = 256 ^ k * x := Int.mul_comm _ _
  rw [hm]
  have hn : 0 ≤ 256 ^ k * x := Int.mul_nonneg (by omega) hx.1
  rw [Int.emod_eq_of_lt hn (by omega), ← hs]
  exact Int.emod_eq_of_lt h1.1 (by omega)

/-- How many bytes follow the first one; -1: none such. -/
def wid (z : Int) : Int := if z < 251 then 0 else if z = 252 then 2 else if z = 253 then 3 else if z = 254 then 8 else -1
end Go.Proofs.Qxb6630436aFmt
