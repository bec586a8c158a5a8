/-
  THE WALK OF THE LAW 'FnOutcomeJoinIsWorstOfParts' behind its guards.
-/
import Derived.Test.Qxb6630391aWalks
namespace Go.Proofs.Qxb6630391a
open Go.RowKit

/-- What is owned stays owned while only new blocks are made or written. -/
theorem owns_later {w w' : World} {base : Nat} {e : TypeId} {size : Nat} {v : Value} {n : Nat} {xs : List Value} (h : w.ownsRow base e size v n xs) (hb : Below w.heap.size w w') : w'.ownsRow base e size v n xs := by
  refine h.kept (row := none) ⟨hb.os, hb.tape, hb.output, hb.size, fun k hk _ => hb.block k hk⟩ ?_
  cases hv : v.ownBlock with
  | none => exact .inl rfl
  | some k => exact .inr (by simp)

theorem messages_any0 (a : Option Addr) (len cap : Nat) (ls : List Int) (w : World) (hm : len ≤ 65536) (he : Elems w a len ls) :
    Calls Try.prog 10 #[.slice a len cap, .int .i64 0] w fun e w' => e = .returned (.slice (some ⟨w.heap.size, 0, none⟩) len len) ∧
      w'.ownsRow w.heap.size 28 3 (.slice (some ⟨w.heap.size, 0, none⟩) len len) len (mcells (bare ls)) ∧ Below w.heap.size w w' :=
  messages_any a len cap 0 ls w hm (Nat.zero_le _) he

set_option maxHeartbeats 2000000 in
theorem join_main (d t : ByteArray) (a2 : Option Addr) (len2 cap2 : Nat) (a3 : Option Addr) (len3 cap3 : Nat) (A B : List Int) (w : World)
    (HT : Hid (∀ w, Calls Try.prog 9 #[.string d, .string t, .slice a2 len2 cap2, .slice a3 len3 cap3] w fun e w' => e = .returned (.bool true) ∧ w' = w))
    (h65 : len2 ≤ 65536) (h66 : len3 ≤ 65536) (h8 : d.size + t.size + 8 * len2 + 8 * len3 ≤ 1048576) (e2 : Elems w a2 len2 A) (e3 : Elems w a3 len3 B) :
    Calls Try.prog 4 #[.string d, .string t, .slice a2 len2 cap2, .slice a3 len3 cap3] w fun e w' => e = .returned (.bool true) ∧ Below w.heap.size w w' := by
  obtain ⟨i0, hi, hz0, hz1, hz2⟩ := info_parts Try.info28
  have E2 := (show Hid _ from e2)
  have E3 := (show Hid _ from e3)
  clear e2 e3
  go_enter Try.func4, Try.ntmps4
  go_wp2_with (go_at_call 9; refine (HT.out _).mono ?_; rintro e w' ⟨rfl, rfl⟩)
  refine (messages_any0 a2 len2 cap2 A _ h65 E2.out).mono ?_
  rintro e w1 ⟨rfl, ho1, hb1⟩
  have E2 := (show Hid _ from E2.out.later hb1)
  have E3 := (show Hid _ from E3.out.later hb1)
  go_wp2_with fail
  refine (messages_any0 a3 len3 cap3 B _ h66 E3.out).mono ?_
  rintro e w2 ⟨rfl, ho2, hb2⟩
  have ho1 := owns_later ho1 hb2
  have E2 := (show Hid _ from E2.out.later hb2)
  have E3 := (show Hid _ from E3.out.later hb2)
  go_wp2_with fail
  refine (messages_any a2 len2 cap2 len3 A _ h65 h66 E2.out).mono ?_
  rintro e w3 ⟨rfl, ho3, hb3⟩
  have HA : Hid (A.length = len2) := E2.out.hlen
  have HB : Hid (B.length = len3) := E3.out.hlen
  have E2' := (show Hid _ from E2.out)
  go_wp2_with fail
  go_loopw [11, 12] (fun v i wr => ∃ k : Nat, k ≤ len3 ∧ i = .int .i64 k ∧ v = .slice (some ⟨w2.heap.size, 0, none⟩) (len2 + k) (len2 + len3) ∧
      wr.ownsRow w2.heap.size 28 3 (.slice (some ⟨w2.heap.size, 0, none⟩) (len2 + k) (len2 + len3)) (len2 + k) (mcells (bare (A ++ B.take k))) ∧ Below w2.heap.size w2 wr) (fun _ i _ => len3 - (intOf i).toNat)
  case atStart => exact ⟨0, Nat.zero_le _, rfl, rfl, by simpa using ho3, hb3⟩
  case round =>
    clear ho3 hb3
    obtain ⟨k, hk, rfl, rfl, ho, hb⟩ := hrel
    by_cases hlt : k < len3
    · obtain ⟨b, off, ha3, hbw, hc⟩ := E3.out.lie (by omega)
      have c := (hb.cell (p := ⟨b, off + k, none⟩) hbw).trans (hc k hlt)
      have HS : Hid (mcells (bare (A ++ B.take (k + 1))) = mcells (bare (A ++ B.take k)) ++ [.int .i64 (B.getD k 0), .string ⟨#[]⟩, .map none]) := by
        show _ = _
        rw [take_succ' B k (by have := HB.out; omega), ← List.append_assoc, bare_append, mcells_append]; rfl
      obtain ⟨l, hl⟩ : ∃ l, l = B.getD k 0 := ⟨_, rfl⟩
      rw [← hl] at c HS
      clear hl hc
      subst ha3
      go_wp2_with (at_builtin; refine wpList_append_fits _ rfl _ _ 29 rfl w2.heap.size 28 i0 3 Try.underlying29 hi hz1 w2.heap.size (len2 + k) (len2 + len3) _ rfl (ho.alloc _) ⟨wr.heap.size, 0, none⟩ 1 1 [.int .i64 l, .string ⟨#[]⟩, .map none] rfl rfl (news_cells _ _ _ _) (news_one _ _) (by omega) ?_)
      intro w4 ho4 hg4
      have hb4 : Below w2.heap.size w2 w4 := (hb.alloc hb.size _).grown hg4 (by have := hb.size; simp; omega) (by simp)
      rw [← HS.out] at ho4
      clear hg4 ho hb
      go_wp2
      go_roundw
      case rel => exact ⟨k + 1, by omega, by go_num, rfl, ho4, hb4⟩
      case measure => simp [intOf]; omega
    · have hkl : k = len3 := by omega
      subst hkl
      rw [List.take_of_length_le (by have := HB.out; omega)] at ho
      have ho1 := owns_later ho1 hb
      have ho2 := owns_later ho2 hb
      have hbw := ((hb1.trans (hb2.mono hb1.size)).trans (hb.mono (by have := hb1.size; have := hb2.size; omega)))
      have E2 := (show Hid _ from E2'.out.later hb)
      have E3 := (show Hid _ from E3.out.later hb)
      clear hb1 hb2 hb E2'
      go_wp2_with fail
      refine (outcome_any _ _ w'.heap.size w'.heap.size len2 len2 (bare A) wr (by rw [bare_len]; exact HA.out) (by omega) ho1).mono ?_
      rintro e x1 ⟨rfl, hx1⟩
      rw [bare_fst]
      have ho2 := owns_later ho2 hx1
      have ho := owns_later ho hx1
      have E2 := (show Hid _ from E2.out.later hx1)
      have E3 := (show Hid _ from E3.out.later hx1)
      have hbw := hbw.trans (hx1.mono hbw.size)
      clear hx1
      go_wp2_with fail
      refine (outcome_any _ _ w1.heap.size w1.heap.size k k (bare B) x1 (by rw [bare_len]; exact HB.out) (by omega) ho2).mono ?_
      rintro e x2 ⟨rfl, hx2⟩
      rw [bare_fst]
      have ho := owns_later ho hx2
      have E2 := (show Hid _ from E2.out.later hx2)
      have E3 := (show Hid _ from E3.out.later hx2)
      have hbw := hbw.trans (hx2.mono hbw.size)
      clear hx2
      go_wp2_with fail
      refine (outcome_any _ _ w2.heap.size w2.heap.size (len2 + k) (len2 + k) (bare (A ++ B)) x2 (by rw [bare_len, List.length_append, HA.out, HB.out]) (by omega) ho).mono ?_
      rintro e x3 ⟨rfl, hx3⟩
      rw [bare_fst]
      have E2 := (show Hid _ from E2.out.later hx3)
      have E3 := (show Hid _ from E3.out.later hx3)
      have hbw := hbw.trans (hx3.mono hbw.size)
      clear hx3 ho
      have hq : (oc (A ++ B) == worse (oc A) (oc B)) = true := by rw [oc_append]; simp
      go_wp2_with fail
      refine (worse_any _ _ _).mono ?_
      rintro e y1 ⟨rfl, hy1⟩
      rw [hy1]
      clear hy1
      go_wp2_with fail
      refine (worst_any a2 len2 cap2 A x3 h65 E2.out).mono ?_
      rintro e y2 ⟨rfl, hy2⟩
      rw [hy2]
      clear hy2
      go_wp2_with fail
      refine (worst_any a3 k cap3 B x3 h66 E3.out).mono ?_
      rintro e y3 ⟨rfl, hy3⟩
      rw [hy3]
      clear hy3
      go_wp2_with fail
      go_ret
      exact ⟨rfl, hbw⟩
end Go.Proofs.Qxb6630391a
