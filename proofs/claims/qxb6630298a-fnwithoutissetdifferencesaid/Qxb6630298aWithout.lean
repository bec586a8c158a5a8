/-
  THE WALK of Without: Actors, then the closure at each.
-/
import Derived.Test.Qxb6630298aDiffWalk
import Derived.Test.Qxb6630298aActors
import Derived.Test.Qxb6630298aBuild
namespace Go.Proofs.Qxb6630298a
open Go.RowKit Go.Maps

/-- WHAT Without ANSWERS. -/
def WithoutPost (Kc Ko : List UInt8 → List (Int × Int)) (m sc : Nat) (w : World) (e : Ending) (w' : World) : Prop :=
  ∃ pu Fu Ku nu, e = .returned (.pointer (some ⟨pu, 0, none⟩)) ∧ Kept none' w w' ∧ Clock w' pu Fu Ku nu ∧ (∀ g, Fu g → w.heap.size ≤ g) ∧ nu ≤ sc * m ∧ (∀ k x, mem x (Ku k) ↔ mem x (Kc k) ∧ ¬ mem x (Ko k)) ∧ ∀ k, (Ku k).length ≤ m

/-- The out clock, the first i keys done. -/
def WoI (wA : World) (pu : Nat) (S : List (List UInt8)) (Kc Ko : List UInt8 → List (Int × Int)) (m i : Nat) (wr : World) : Prop :=
  Kept (fun g => g = pu) wA wr ∧ ∃ Fu Ku nu, Clock wr pu Fu Ku nu ∧ (∀ g, Fu g → g = pu ∨ wA.heap.size ≤ g) ∧ nu ≤ i * m ∧ (∀ k, k ∈ S.take i → ∀ x, mem x (Ku k) ↔ mem x (Kc k) ∧ ¬ mem x (Ko k)) ∧ (∀ k, k ∉ S.take i → Ku k = []) ∧ ∀ k, (Ku k).length ≤ m

theorem take_snoc {S : List (List UInt8)} {i : Nat} (hi : i < S.length) : S.take (i + 1) = S.take i ++ [S.getD i []] := by
  rw [List.take_add_one, List.getD, List.getElem?_eq_getElem hi]; rfl
theorem not_mem_take {S : List (List UInt8)} {i : Nat} (hi : i < S.length) (hn : S.Nodup) : S.getD i [] ∉ S.take i := by
  have h : (S.take i ++ [S.getD i []]).Nodup := by rw [← take_snoc hi]; exact hn.sublist (List.take_sublist _ _)
  intro hm
  exact (List.nodup_append.1 h).2.2 _ hm _ (by simp) rfl

theorem wo_step {wA wr w' : World} {pu : Nat} {S : List (List UInt8)} {Kc Ko Ku : List UInt8 → List (Int × Int)} {m i nu : Nat} {Fu : Nat → Prop} {s : ByteArray} {e : Ending} (hi : i < S.length) (hs : key s = S.getD i [])
    (hm : ∀ k, (Kc k).length + (Ko k).length ≤ m) (hk : Kept (fun g => g = pu) wA wr) (hF : ∀ g, Fu g → g = pu ∨ wA.heap.size ≤ g) (hnu : nu ≤ i * m) (hin : ∀ k, k ∈ S.take i → ∀ x, mem x (Ku k) ↔ mem x (Kc k) ∧ ¬ mem x (Ko k)) (hout : ∀ k, k ∉ S.take i → Ku k = []) (hl : ∀ k, (Ku k).length ≤ m)
    (hp : DiffPost pu s Fu Ku nu (Kc (key s)) (Ko (key s)) wr e w') : e = .returned (.tuple #[]) ∧ WoI wA pu S Kc Ko m (i + 1) w' := by
  obtain ⟨rfl, hk', R', hm', hl', hc⟩ := hp
  have hsz := hk.size
  have hml := hm (key s)
  refine ⟨rfl, hk.trans hk' (fun g h1 h2 => by rcases hF g h2 with h | h <;> omega), _, _, _, hc, fun g h => ?_, ?_, fun k hkm x => ?_, fun k hkm => ?_, fun k => ?_⟩
  · rcases h with h | h
    · exact hF g h
    · exact .inr (by omega)
  · rw [Nat.succ_mul]; omega
  · by_cases h : k = key s
    · subst h; rw [upd_same]; exact hm' x
    · rw [upd_other _ _ h]
      refine hin k ?_ x
      rw [take_snoc hi, List.mem_append] at hkm
      rcases hkm with h1 | h1
      · exact h1
      · simp only [List.mem_singleton] at h1; rw [hs] at h; exact absurd h1 h
  · rw [take_snoc hi, List.mem_append] at hkm
    have h : k ≠ key s := fun h => hkm (.inr (by rw [h, hs]; simp))
    rw [upd_other _ _ h]
    exact hout k (fun h1 => hkm (.inl h1))
  · by_cases h : k = key s
    · subst h; rw [upd_same]; omega
    · rw [upd_other _ _ h]; exact hl k

theorem actors' (pb : Nat) (F : Nat → Prop) (K : List UInt8 → List (Int × Int)) (nm : Nat) (w : World) (hc : Clock w pb F K nm) (hnm : nm ≤ 1073741824) :
    Calls Try.prog 14 #[.pointer (some ⟨pb, 0, none⟩)] w fun e w' => ActorsPost K nm w e w' := by
  obtain ⟨mb, mc, D, E, sl, h⟩ := hc
  exact actors pb F K nm mb mc D E sl w h hnm

/-- The boxes and the out clock are made. -/
def made3 (w : World) (pc po : Nat) : World := ((w.alloc (.cells #[.pointer (some ⟨pc, 0, none⟩)] 27)).alloc (.cells #[.pointer (some ⟨po, 0, none⟩)] 27)).alloc (.cells #[.map none, .map none] 44)
theorem made3_size (w : World) (pc po : Nat) : (made3 w pc po).heap.size = w.heap.size + 3 := by simp [made3]
theorem made3_kept (w : World) (pc po : Nat) : Kept none' w (made3 w pc po) := ((((Kept.refl none' w).alloc _).alloc _).alloc _)

theorem made3_cells (w : World) (pc po : Nat) : (made3 w pc po).cell? ⟨w.heap.size, 0, none⟩ = some (.pointer (some ⟨pc, 0, none⟩)) ∧ (made3 w pc po).cell? ⟨w.heap.size + 1, 0, none⟩ = some (.pointer (some ⟨po, 0, none⟩)) := by
  constructor
  · have h : (made3 w pc po).heap[w.heap.size]? = some (.cells #[.pointer (some ⟨pc, 0, none⟩)] 27 (0, 0)) := by
      unfold made3
      rw [Below.heap_alloc _ _ _ (by simp; omega), Below.heap_alloc _ _ _ (by simp)]
      exact heap_alloc_new w _
    rw [cell_of_row _ _ _ _ 27 (0, 0) h]; rfl
  · have h : (made3 w pc po).heap[w.heap.size + 1]? = some (.cells #[.pointer (some ⟨po, 0, none⟩)] 27 (0, 0)) := by
      unfold made3
      rw [Below.heap_alloc _ _ _ (by simp)]
      have := heap_alloc_new (w.alloc (.cells #[.pointer (some ⟨pc, 0, none⟩)] 27)) (.cells #[.pointer (some ⟨po, 0, none⟩)] 27)
      simpa using this
    rw [cell_of_row _ _ _ _ 27 (0, 0) h]; rfl
theorem made3_clock (w : World) (pc po : Nat) : Clock (made3 w pc po) (w.heap.size + 2) (fun k => k = w.heap.size + 2) (fun _ => []) 0 := by
  have h := clock_new ((w.alloc (.cells #[.pointer (some ⟨pc, 0, none⟩)] 27)).alloc (.cells #[.pointer (some ⟨po, 0, none⟩)] 27))
  have e : ((w.alloc (.cells #[.pointer (some ⟨pc, 0, none⟩)] 27)).alloc (.cells #[.pointer (some ⟨po, 0, none⟩)] 27)).heap.size = w.heap.size + 2 := by simp
  rw [e] at h
  exact h.mono (fun k h => by omega) (fun k h => by have := made3_size w pc po; unfold made3 at this; rw [this]; omega) (Nat.le_refl _)

set_option maxRecDepth 100000 in
set_option maxHeartbeats 3200000 in
theorem without (pc po : Nat) (Fc Fo : Nat → Prop) (Kc Ko : List UInt8 → List (Int × Int)) (nc no m sc : Nat) (w : World) (hc : Clock w pc Fc Kc nc) (ho : Clock w po Fo Ko no) (hnc : nc ≤ 1073741824)
    (hm : ∀ k, (Kc k).length + (Ko k).length ≤ m) (hm30 : m ≤ 1073741824) (hsup : ∀ S : List (List UInt8), S.Nodup → (∀ k ∈ S, Kc k ≠ []) → S.length ≤ sc) (hb : sc * m ≤ 1073741824) (hsc : sc ≤ 1073741824) :
    Calls Try.prog 7 #[.pointer (some ⟨pc, 0, none⟩), .pointer (some ⟨po, 0, none⟩)] w fun e w' => WithoutPost Kc Ko m sc w e w' := by
  have HC := (show Hid (Clock w pc Fc Kc nc) from hc)
  have HO := (show Hid (Clock w po Fo Ko no) from ho)
  have HM := (show Hid (∀ k, (Kc k).length + (Ko k).length ≤ m) from hm)
  have HS := (show Hid (∀ S : List (List UInt8), S.Nodup → (∀ k ∈ S, Kc k ≠ []) → S.length ≤ sc) from hsup)
  have HB := (show Hid (sc * m ≤ 1073741824) from hb)
  have HCA := (show Hid (Calls Try.prog 14 #[.pointer (some ⟨pc, 0, none⟩)] (made3 w pc po) fun e w' => ActorsPost Kc nc (made3 w pc po) e w') from actors' pc Fc Kc nc _ (hc.later (made3_kept w pc po) (fun _ _ h => h)) hnc)
  clear hc ho hm hsup hb hnc
  go_enter Try.func7, Try.ntmps7
  go_wp2_with (go_at_call 14; refine HCA.out.mono ?_; rintro e w' ⟨V, S, rfl, hk, hS, hsrt, hnd, hmem, hlen, hkl⟩; obtain ⟨ao, n, c, rfl, hn, hr⟩ := hS; have HN := (show Hid (n = S.length) from hn); clear hn)
  obtain ⟨wA, hwA⟩ : ∃ wA, wA = w' := ⟨_, rfl⟩
  subst hwA
  have hnsc : S.length ≤ sc := HS.out S hnd (fun k hk => (hmem k).1 hk)
  have hK : Kept none' w wA := (made3_kept w pc po).trans hk (fun _ _ h => h)
  have HK := (show Hid (Kept none' w wA) from hK)
  have HK3 := (show Hid (Kept none' (made3 w pc po) wA) from hk)
  have hs3 : w.heap.size + 3 ≤ wA.heap.size := by have := hk.size; rw [made3_size] at this; exact this
  have HSt : Hid (WoI wA (w.heap.size + 2) S Kc Ko m 0 wA) := by
    refine ⟨Kept.refl _ _, _, _, 0, (made3_clock w pc po).later hk (fun _ _ h => h), fun g h => .inl h, Nat.zero_le _, fun k h => by simp at h, fun k _ => rfl, fun k => Nat.zero_le _⟩
  have HND := (show Hid S.Nodup from hnd)
  have HME := (show Hid (∀ k, k ∈ S ↔ Kc k ≠ []) from hmem)
  have HKL := (show Hid (∀ k ∈ S, k.length ≤ maxLen) from hkl)
  have HR := (show Hid _ from hr)
  have hn30 : n ≤ 1073741824 := by have := HN.out; omega
  have HSC := (show Hid (S.length ≤ sc) from hnsc)
  clear hK hk hnd hmem hkl hr hsrt hlen hnsc HCA
  go_loopw [13] (fun i wr => ∃ ii : Nat, i = .int .i64 ii ∧ ii ≤ n ∧ WoI wA (w.heap.size + 2) S Kc Ko m ii wr) (fun i _ => n - (intOf i).toNat)
  case atStart => exact ⟨0, rfl, Nat.zero_le _, HSt.out⟩
  case round =>
    obtain ⟨ii, rfl, hin, hb⟩ := hrel
    have HI := (show Hid (WoI wA (w.heap.size + 2) S Kc Ko m ii wr) from hb)
    clear hb HSt
    by_cases hlt : ii < n
    · have hil : ii < S.length := by rw [← HN.out]; exact hlt
      have hSne : S ≠ [] := fun h => by rw [h] at hil; simp at hil
      obtain ⟨g, off, cur, hao, hgw, hrow, hcs⟩ := HR.out hSne
      rw [made3_size] at hgw
      obtain ⟨hkw, Fu, Ku, nu, hck, hF, hnu, hdone, hrest, hul⟩ := HI.out
      obtain ⟨s, hs⟩ : ∃ s : ByteArray, encStr (S.getD ii []) = .string s := ⟨_, rfl⟩
      have hks : key s = S.getD ii [] := by
        have : (Value.string ⟨(S.getD ii []).toArray⟩) = .string s := hs
        injection this with this
        rw [← this]
      have c1 : wr.cell? ⟨g, off + ii, none⟩ = some (.string s) := by
        refine hkw.cell ?_ (show ¬ g = w.heap.size + 2 by omega)
        rw [cell_of_row wA g _ cur 9 (0, 0) hrow, ← hs]
        exact hcs ii hlt
      have hbc : wr.cell? ⟨w.heap.size, 0, none⟩ = some (.pointer (some ⟨pc, 0, none⟩)) := hkw.cell (HK3.out.cell (made3_cells w pc po).1 (fun h => h)) (show ¬ w.heap.size = w.heap.size + 2 by omega)
      have hbo : wr.cell? ⟨w.heap.size + 1, 0, none⟩ = some (.pointer (some ⟨po, 0, none⟩)) := hkw.cell (HK3.out.cell (made3_cells w pc po).2 (fun h => h)) (show ¬ w.heap.size + 1 = w.heap.size + 2 by omega)
      have hsl : s.size ≤ maxLen := by
        have := HKL.out (S.getD ii []) (by simp [List.getD, hil])
        rw [← hks, Array.length_toList] at this
        exact this
      have hkww : Kept (fun g => g = w.heap.size + 2) w wr := (HK.out.mono (fun _ _ h => h.elim)).trans hkw (fun _ _ h => h)
      have hcw : Clock wr pc Fc Kc nc := HC.out.later hkww (fun i h1 h2 => by have := HC.out.bound i h1; omega)
      have how : Clock wr po Fo Ko no := HO.out.later hkww (fun i h1 h2 => by have := HO.out.bound i h1; omega)
      have h0 : Ku (key s) = [] := by rw [hks]; exact hrest _ (not_mem_take hil HND.out)
      have hmm := HM.out (key s)
      have hnu30 : nu ≤ 1073741824 := by
        have h1 : ii * m ≤ sc * m := Nat.mul_le_mul_right m (by have := HSC.out; omega)
        have := HB.out
        omega
      have hcall := diffOne (w.heap.size + 2) pc po (w.heap.size + 1) w.heap.size s Fu Fc Fo Ku Kc Ko nu nc no wr hsl hck hcw how
        (fun k h1 h2 => by have := HC.out.bound k h1; rcases hF k h2 with h | h <;> omega) (fun k h1 h2 => by have := HO.out.bound k h1; rcases hF k h2 with h | h <;> omega) h0 hbo hbc (by omega) (by omega) hnu30
      have HCALL := (show Hid (Calls Try.prog 18 #[.string s, .pointer (some ⟨w.heap.size + 1, 0, none⟩), .pointer (some ⟨w.heap.size, 0, none⟩), .pointer (some ⟨w.heap.size + 2, 0, none⟩)] wr fun e w' => e = .returned (.tuple #[]) ∧ WoI wA (w.heap.size + 2) S Kc Ko m (ii + 1) w') from
        hcall.mono (fun e w' hp => wo_step hil hks HM.out hkw hF hnu hdone hrest hul hp))
      subst hao
      have hlt' : (ii : Int) < (n : Int) := by omega
      have hi0 : (0 : Int) ≤ (ii : Int) := by omega
      clear hcall hcs hkw hck hF hnu hdone hrest hul hcw how h0 hmm hkww hrow hSne hil hks hbc hbo hs
      go_wp2_with (go_at_call 18; refine HCALL.out.mono ?_; rintro e w2 ⟨rfl, hb2⟩)
      go_roundw
      case rel => exact ⟨ii + 1, by go_num, by omega, hb2⟩
      case measure => simp [intOf]; omega
    · have hii : ii = n := by omega
      go_wp2_with fail
      go_ret
      obtain ⟨hkw, Fu, Ku, nu, hck, hF, hnu, hdone, hrest, hul⟩ := HI.out
      have hiS : ii = S.length := hii.trans HN.out
      refine ⟨_, Fu, Ku, nu, rfl, HK.out.trans hkw (fun i h1 h2 => by omega), hck, fun g h => by rcases hF g h with h | h <;> omega, Nat.le_trans hnu (Nat.mul_le_mul_right m (by have := HSC.out; omega)), fun k x => ?_, hul⟩
      rw [hiS, List.take_length] at hdone hrest
      by_cases hk : k ∈ S
      · exact hdone k hk x
      · have e1 : Kc k = [] := Classical.byContradiction fun h => hk ((HME.out k).2 h)
        rw [hrest k hk, e1]
        simp [mem_nil]
end Go.Proofs.Qxb6630298a
