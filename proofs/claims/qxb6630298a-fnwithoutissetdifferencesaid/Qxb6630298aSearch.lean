/-
  THE WALKS of sort.Search and the two closures that addSpan hands it.
-/
import Derived.Test.Qxb6630298aMem
import Derived.Deep.QuietTactic
import Derived.BigQuiet
namespace Go.Proofs.Qxb6630298a
open Go.RowKit Go.Maps

theorem ret_bool {a b : Bool} (h : a = b) : Ending.returned (.bool a) = .returned (.bool b) := by rw [h]
theorem ret_int {k : IntKind} {a b : Int} (h : a = b) : Ending.returned (.int k a) = .returned (.int k b) := by rw [h]
theorem int_eq {k : IntKind} {a b : Int} (h : a = b) : Value.int k a = .int k b := by rw [h]

set_option maxHeartbeats 800000 in
theorem clo1 (k n c : Nat) (sb vb g off cap : Nat) (L : List (Int × Int)) (lo : Int) (w : World) (hk : k < L.length) (hn : L.length = n) (hlo : 1 ≤ lo) (hlo2 : lo ≤ 18446744073709551615)
    (hs : w.cell? ⟨sb, 0, none⟩ = some (.slice (some ⟨g, off, none⟩) n c)) (hv : w.cell? ⟨vb, 0, none⟩ = some (.int .u64 lo)) (hr : Row w g off cap L) :
    Calls Try.prog 26 #[.int .i64 k, .pointer (some ⟨sb, 0, none⟩), .pointer (some ⟨vb, 0, none⟩)] w fun e w' => e = .returned (.bool (decide (lo - 1 ≤ (L.getD k (0, 0)).2))) ∧ ∃ q, w' = w.drewN q := by
  obtain ⟨c0, c1⟩ := hr.cells k hk
  have hkn : (k : Int) < (n : Int) := by omega
  have hk0 : (0 : Int) ≤ (k : Int) := by omega
  obtain ⟨p, hp⟩ : ∃ p, p = L.getD k (0, 0) := ⟨_, rfl⟩
  rw [← hp] at c0 c1 ⊢
  clear hp hr hn hk L
  go_enter Try.func26, Try.ntmps26
  go_wp2
  go_quiet (fail)
  go_wp2
  go_ret
  exact ⟨rfl, _, rfl⟩

set_option maxHeartbeats 800000 in
theorem clo2 (k i n c : Nat) (sb ib vb g off cap : Nat) (L : List (Int × Int)) (hi : Int) (w : World) (hk : i + k < L.length) (hn : L.length = n) (hm : n ≤ 140737488355328) (hpos : 1 ≤ (L.getD (i + k) (0, 0)).1) (hpos2 : (L.getD (i + k) (0, 0)).1 ≤ 18446744073709551615)
    (hs : w.cell? ⟨sb, 0, none⟩ = some (.slice (some ⟨g, off, none⟩) n c)) (hi' : w.cell? ⟨ib, 0, none⟩ = some (.int .i64 i)) (hv : w.cell? ⟨vb, 1, none⟩ = some (.int .u64 hi)) (hr : Row w g off cap L) :
    Calls Try.prog 27 #[.int .i64 k, .pointer (some ⟨sb, 0, none⟩), .pointer (some ⟨ib, 0, none⟩), .pointer (some ⟨vb, 0, none⟩)] w fun e w' => e = .returned (.bool (decide (hi < (L.getD (i + k) (0, 0)).1 - 1))) ∧ ∃ q, w' = w.drewN q := by
  obtain ⟨c0, c1⟩ := hr.cells (i + k) hk
  have hkn : (i : Int) + (k : Int) < (n : Int) := by omega
  have hk0 : (0 : Int) ≤ (i : Int) + (k : Int) := by omega
  obtain ⟨p, hp⟩ : ∃ p, p = L.getD (i + k) (0, 0) := ⟨_, rfl⟩
  rw [← hp] at c0 c1 hpos hpos2 ⊢
  clear hp hr hn hk L
  go_enter Try.func27, Try.ntmps27
  go_wp2
  go_quiet (fail)
  go_wp2
  go_ret
  exact ⟨rfl, _, rfl⟩

set_option maxHeartbeats 1600000 in
theorem search26 (cb : Array Value) (n : Nat) (p : Nat → Bool) (w : World) (hsz : n ≤ 140737488355328)
    (hf : ∀ (m : Nat) (i : Nat), i < n → Calls Try.prog 26 (#[.int .i64 i] ++ cb) (w.drewN m) fun e w' => e = .returned (.bool (p i)) ∧ ∃ q, w' = w.drewN q)
    (hmono : ∀ a b, a ≤ b → b < n → p a = true → p b = true) :
    Calls Try.prog 25 #[.int .i64 n, .func (.func 26) #[] cb] w fun e w' => ∃ i, i ≤ n ∧ (∀ t, t < i → p t = false) ∧ (∀ t, i ≤ t → t < n → p t = true) ∧ e = .returned (.int .i64 i) ∧ ∃ q, w' = w.drewN q := by
  have HF := (show Hid _ from hf)
  have M := (show Hid _ from hmono)
  clear hf hmono
  go_enter Try.func25, Try.ntmps25
  go_wp2
  go_loopw [5, 6] (fun s5 s6 wr => ∃ (lo hi q : Nat), s5 = .int .i64 lo ∧ s6 = .int .i64 hi ∧ lo ≤ hi ∧ hi ≤ n ∧ wr = w.drewN q ∧
    Hid ((∀ t, t < lo → p t = false) ∧ (∀ t, hi ≤ t → t < n → p t = true))) (fun s5 s6 _ => (intOf s6).toNat - (intOf s5).toNat)
  case atStart => exact ⟨0, n, 0, rfl, rfl, Nat.zero_le _, Nat.le_refl _, rfl, (⟨fun t ht => absurd ht (Nat.not_lt_zero _), fun t h1 h2 => by omega⟩ : (∀ t, t < 0 → p t = false) ∧ (∀ t, n ≤ t → t < n → p t = true))⟩
  case round =>
    obtain ⟨lo, hi, q, rfl, rfl, hlh, hin, rfl, I⟩ := hrel
    by_cases hlt : lo < hi
    · have hc := HF.out q ((lo + hi) / 2) (by omega)
      rw [show (((lo + hi) / 2 : Nat) : Int) = ((lo : Int) + (hi : Int)) / 2 by omega] at hc
      cases hp : p ((lo + hi) / 2) <;> rw [hp] at hc
      · have HP : Hid (p ((lo + hi) / 2) = false) := hp
        clear hp
        go_wp2_with (go_at_call 26; refine hc.mono ?_; rintro e w' ⟨rfl, nq, rfl⟩)
        have I2 : Hid ((∀ t, t < (lo + hi) / 2 + 1 → p t = false) ∧ (∀ t, hi ≤ t → t < n → p t = true)) := ⟨fun t ht => (by
            cases h : p t with
            | false => rfl
            | true => have := M.out t ((lo + hi) / 2) (by omega) (by omega) h; rw [HP.out] at this; cases this), I.out.2⟩
        go_roundw
        case rel => exact ⟨(lo + hi) / 2 + 1, hi, _, int_eq (by omega), rfl, by omega, hin, rfl, I2⟩
        case measure => simp [intOf]; omega
      · have HP : Hid (p ((lo + hi) / 2) = true) := hp
        clear hp
        go_wp2_with (go_at_call 26; refine hc.mono ?_; rintro e w' ⟨rfl, nq, rfl⟩)
        have I2 : Hid ((∀ t, t < lo → p t = false) ∧ (∀ t, (lo + hi) / 2 ≤ t → t < n → p t = true)) := ⟨I.out.1, fun t ht htn => M.out ((lo + hi) / 2) t ht htn HP.out⟩
        go_roundw
        case rel => exact ⟨lo, (lo + hi) / 2, _, rfl, int_eq (by omega), by omega, by omega, rfl, I2⟩
        case measure => simp [intOf]; omega
    · obtain rfl : hi = lo := by omega
      go_wp2
      go_ret
      exact ⟨hi, hin, I.out.1, I.out.2, rfl, q, rfl⟩

set_option maxHeartbeats 1600000 in
theorem search27 (cb : Array Value) (n : Nat) (p : Nat → Bool) (w : World) (hsz : n ≤ 140737488355328)
    (hf : ∀ (m : Nat) (i : Nat), i < n → Calls Try.prog 27 (#[.int .i64 i] ++ cb) (w.drewN m) fun e w' => e = .returned (.bool (p i)) ∧ ∃ q, w' = w.drewN q)
    (hmono : ∀ a b, a ≤ b → b < n → p a = true → p b = true) :
    Calls Try.prog 25 #[.int .i64 n, .func (.func 27) #[] cb] w fun e w' => ∃ i, i ≤ n ∧ (∀ t, t < i → p t = false) ∧ (∀ t, i ≤ t → t < n → p t = true) ∧ e = .returned (.int .i64 i) ∧ ∃ q, w' = w.drewN q := by
  have HF := (show Hid _ from hf)
  have M := (show Hid _ from hmono)
  clear hf hmono
  go_enter Try.func25, Try.ntmps25
  go_wp2
  go_loopw [5, 6] (fun s5 s6 wr => ∃ (lo hi q : Nat), s5 = .int .i64 lo ∧ s6 = .int .i64 hi ∧ lo ≤ hi ∧ hi ≤ n ∧ wr = w.drewN q ∧
    Hid ((∀ t, t < lo → p t = false) ∧ (∀ t, hi ≤ t → t < n → p t = true))) (fun s5 s6 _ => (intOf s6).toNat - (intOf s5).toNat)
  case atStart => exact ⟨0, n, 0, rfl, rfl, Nat.zero_le _, Nat.le_refl _, rfl, (⟨fun t ht => absurd ht (Nat.not_lt_zero _), fun t h1 h2 => by omega⟩ : (∀ t, t < 0 → p t = false) ∧ (∀ t, n ≤ t → t < n → p t = true))⟩
  case round =>
    obtain ⟨lo, hi, q, rfl, rfl, hlh, hin, rfl, I⟩ := hrel
    by_cases hlt : lo < hi
    · have hc := HF.out q ((lo + hi) / 2) (by omega)
      rw [show (((lo + hi) / 2 : Nat) : Int) = ((lo : Int) + (hi : Int)) / 2 by omega] at hc
      cases hp : p ((lo + hi) / 2) <;> rw [hp] at hc
      · have HP : Hid (p ((lo + hi) / 2) = false) := hp
        clear hp
        go_wp2_with (go_at_call 27; refine hc.mono ?_; rintro e w' ⟨rfl, nq, rfl⟩)
        have I2 : Hid ((∀ t, t < (lo + hi) / 2 + 1 → p t = false) ∧ (∀ t, hi ≤ t → t < n → p t = true)) := ⟨fun t ht => (by
            cases h : p t with
            | false => rfl
            | true => have := M.out t ((lo + hi) / 2) (by omega) (by omega) h; rw [HP.out] at this; cases this), I.out.2⟩
        go_roundw
        case rel => exact ⟨(lo + hi) / 2 + 1, hi, _, int_eq (by omega), rfl, by omega, hin, rfl, I2⟩
        case measure => simp [intOf]; omega
      · have HP : Hid (p ((lo + hi) / 2) = true) := hp
        clear hp
        go_wp2_with (go_at_call 27; refine hc.mono ?_; rintro e w' ⟨rfl, nq, rfl⟩)
        have I2 : Hid ((∀ t, t < lo → p t = false) ∧ (∀ t, (lo + hi) / 2 ≤ t → t < n → p t = true)) := ⟨I.out.1, fun t ht htn => M.out ((lo + hi) / 2) t ht htn HP.out⟩
        go_roundw
        case rel => exact ⟨lo, (lo + hi) / 2, _, rfl, int_eq (by omega), by omega, by omega, rfl, I2⟩
        case measure => simp [intOf]; omega
    · obtain rfl : hi = lo := by omega
      go_wp2
      go_ret
      exact ⟨hi, hin, I.out.1, I.out.2, rfl, q, rfl⟩

/-- Where the tests turn to yes. -/
def cnt (n : Nat) (p : Nat → Bool) : Nat := (List.range n).countP fun i => !p i
theorem cnt_eq {n i : Nat} {p : Nat → Bool} (hi : i ≤ n) (h1 : ∀ t, t < i → p t = false) (h2 : ∀ t, i ≤ t → t < n → p t = true) : cnt n p = i := by
  unfold cnt
  obtain ⟨d, rfl⟩ : ∃ d, n = i + d := ⟨n - i, by omega⟩
  rw [List.range_add, List.countP_append]
  have e1 : (List.range i).countP (fun t => !p t) = i := by
    rw [List.countP_eq_length.2 (fun t ht => by rw [h1 t (by simpa using ht)]; rfl)]; simp
  have e2 : ((List.range d).map (i + ·)).countP (fun t => !p t) = 0 := by
    rw [List.countP_eq_zero]
    intro t ht
    obtain ⟨j, hj, rfl⟩ := List.mem_map.1 ht
    rw [h2 (i + j) (by omega) (by have := List.mem_range.1 hj; omega)]; simp
  omega
theorem cnt_spec {n : Nat} {p : Nat → Bool} (hmono : ∀ a b, a ≤ b → b < n → p a = true → p b = true) : cnt n p ≤ n ∧ (∀ t, t < cnt n p → p t = false) ∧ (∀ t, cnt n p ≤ t → t < n → p t = true) := by
  obtain ⟨i, hi, h1, h2⟩ : ∃ i, i ≤ n ∧ (∀ t, t < i → p t = false) ∧ (∀ t, i ≤ t → t < n → p t = true) := by
    induction n with
    | zero => exact ⟨0, Nat.le_refl _, fun t ht => by omega, fun t _ ht => by omega⟩
    | succ n ih =>
      obtain ⟨i, hi, h1, h2⟩ := ih (fun a b hab hb => hmono a b hab (by omega))
      by_cases hin : i < n
      · exact ⟨i, by omega, h1, fun t ht htn => by
          by_cases e : t < n
          · exact h2 t ht e
          · exact hmono i t ht htn (h2 i (Nat.le_refl _) hin)⟩
      · cases hp : p n with
        | true => exact ⟨n, by omega, fun t ht => h1 t (by omega), fun t ht htn => by rw [show t = n by omega]; exact hp⟩
        | false => exact ⟨n + 1, by omega, fun t ht => by
            by_cases e : t < n
            · exact h1 t (by omega)
            · rw [show t = n by omega]; exact hp, fun t ht htn => by omega⟩
  rw [cnt_eq hi h1 h2]
  exact ⟨hi, h1, h2⟩
theorem search26c (cb : Array Value) (n : Nat) (p : Nat → Bool) (w : World) (hsz : n ≤ 140737488355328)
    (hf : ∀ (m : Nat) (i : Nat), i < n → Calls Try.prog 26 (#[.int .i64 i] ++ cb) (w.drewN m) fun e w' => e = .returned (.bool (p i)) ∧ ∃ q, w' = w.drewN q)
    (hmono : ∀ a b, a ≤ b → b < n → p a = true → p b = true) :
    Calls Try.prog 25 #[.int .i64 n, .func (.func 26) #[] cb] w fun e w' => e = .returned (.int .i64 (cnt n p)) ∧ ∃ q, w' = w.drewN q :=
  (search26 cb n p w hsz hf hmono).mono fun e w' ⟨i, hi, h1, h2, he, hw⟩ => ⟨by rw [cnt_eq hi h1 h2]; exact he, hw⟩
theorem search27c (cb : Array Value) (n : Nat) (p : Nat → Bool) (w : World) (hsz : n ≤ 140737488355328)
    (hf : ∀ (m : Nat) (i : Nat), i < n → Calls Try.prog 27 (#[.int .i64 i] ++ cb) (w.drewN m) fun e w' => e = .returned (.bool (p i)) ∧ ∃ q, w' = w.drewN q)
    (hmono : ∀ a b, a ≤ b → b < n → p a = true → p b = true) :
    Calls Try.prog 25 #[.int .i64 n, .func (.func 27) #[] cb] w fun e w' => e = .returned (.int .i64 (cnt n p)) ∧ ∃ q, w' = w.drewN q :=
  (search27 cb n p w hsz hf hmono).mono fun e w' ⟨i, hi, h1, h2, he, hw⟩ => ⟨by rw [cnt_eq hi h1 h2]; exact he, hw⟩
end Go.Proofs.Qxb6630298a
