/-
  THE WALK of zzBuild: a clock filled from a list of ranges.
-/
import Derived.Test.Qxb6630298aAddAll
import Derived.Deep.DeepCutAuto
import Derived.Deep.RegionWith
import Derived.BigRegion
import Derived.Deep.CutBlock
namespace Go.Proofs.Qxb6630298a
open Go.RowKit Go.Maps

/-- One event: actor, lo, hi. -/
abbrev Evt := ByteArray × Int × Int
def evt0 : Evt := (ByteArray.empty, 0, 0)
/-- A slice of events that reads as L. -/
def EvS (w : World) (V : Value) (L : List Evt) : Prop :=
  ∃ ao n c, V = .slice ao n c ∧ n = L.length ∧ (L ≠ [] → ∃ g off, ao = some ⟨g, off, none⟩ ∧ g < w.heap.size ∧ ∀ i, i < n →
    w.cell? ⟨g, off + i * 3, none⟩ = some (.string (L.getD i evt0).1) ∧ w.cell? ⟨g, off + i * 3 + 1, none⟩ = some (.int .u64 (L.getD i evt0).2.1) ∧ w.cell? ⟨g, off + i * 3 + 2, none⟩ = some (.int .u64 (L.getD i evt0).2.2))
/-- The events may be handed to a clock. -/
def GoodE (L : List Evt) : Prop := ∀ e ∈ L, e.1.size ≤ maxLen ∧ 0 ≤ e.2.1 ∧ e.2.1 ≤ e.2.2 ∧ e.2.2 ≤ 18446744073709551615
/-- Some range of L for the key covers x. -/
def cov (L : List Evt) (k : List UInt8) (x : Int) : Prop := ∃ e ∈ L, key e.1 = k ∧ 1 ≤ x ∧ e.2.1 ≤ x ∧ x ≤ e.2.2

theorem cov_snoc (L : List Evt) (e : Evt) (k : List UInt8) (x : Int) : cov (L ++ [e]) k x ↔ cov L k x ∨ (key e.1 = k ∧ 1 ≤ x ∧ e.2.1 ≤ x ∧ x ≤ e.2.2) := by
  unfold cov
  constructor
  · rintro ⟨a, ha, h⟩
    rcases List.mem_append.1 ha with h1 | h1
    · exact .inl ⟨a, h1, h⟩
    · rw [List.mem_singleton] at h1; subst h1; exact .inr h
  · rintro (⟨a, ha, h⟩ | h)
    · exact ⟨a, List.mem_append.2 (.inl ha), h⟩
    · exact ⟨e, List.mem_append.2 (.inr (by simp)), h⟩

theorem clock_new (w : World) : Clock (w.alloc (.cells #[.map none, .map none] 44)) w.heap.size (fun k => w.heap.size ≤ k ∧ k < w.heap.size + 1) (fun _ => []) 0 := by
  refine ⟨none, none, .map [], .map [], fun _ => ⟨0, 0, 0⟩, ⟨heap_alloc_new w _, ⟨Nat.le_refl _, by omega⟩, fun k h => by simp; omega, .inl ⟨rfl, rfl⟩, .inl ⟨rfl, rfl⟩, fun _ => trivial, fun _ => ⟨rfl, rfl⟩, fun _ => rfl, fun _ h => absurd rfl h, fun _ _ h => absurd rfl h, fun _ h => by cases h⟩⟩

/-- The clock behind the first events. -/
def BuildI (w : World) (L : List Evt) (i : Nat) (wr : World) : Prop :=
  Kept none' w wr ∧ ∃ K, Clock wr w.heap.size (fun k => w.heap.size ≤ k ∧ k < wr.heap.size) K i ∧ (∀ k x, mem x (K k) ↔ cov (L.take i) k x) ∧ ∀ k, (K k).length ≤ i

theorem build_step {w : World} {L : List Evt} {i : Nat} {wr w' : World} {e : Ending} {K : List UInt8 → List (Int × Int)} (hk : Kept none' w wr) (hi : i < L.length) (hm : ∀ k x, mem x (K k) ↔ cov (L.take i) k x) (hl : ∀ k, (K k).length ≤ i)
    (hp : AddPost w.heap.size (L.getD i evt0).1 (L.getD i evt0).2.1 (L.getD i evt0).2.2 (fun k => w.heap.size ≤ k ∧ k < wr.heap.size) K i wr e w') : e = .returned (.tuple #[]) ∧ BuildI w L (i + 1) w' := by
  obtain ⟨rfl, hk', R', _, hm', hl', hc⟩ := hp
  have hw : w.heap.size ≤ wr.heap.size := hk.size
  have hs : wr.heap.size ≤ w'.heap.size := hk'.size
  refine ⟨rfl, hk.trans hk' (fun k h1 h2 => by omega), _, hc.mono (fun k h => by omega) (fun k h => h.2) (Nat.le_refl _), fun k x => ?_, fun k => ?_⟩
  · have e : L.take (i + 1) = L.take i ++ [L.getD i evt0] := by
      rw [List.take_add_one, List.getD, List.getElem?_eq_getElem hi]; rfl
    rw [e, cov_snoc]
    by_cases h : k = key (L.getD i evt0).1
    · subst h
      rw [upd_same, hm', hm]
      simp
    · rw [upd_other _ _ h, hm]
      constructor
      · exact .inl
      · rintro (h1 | ⟨h1, _⟩)
        · exact h1
        · exact absurd h1.symm h
  · by_cases h : k = key (L.getD i evt0).1
    · subst h; rw [upd_same]; have := hl (key (L.getD i evt0).1); omega
    · rw [upd_other _ _ h]; have := hl k; omega

set_option maxRecDepth 100000 in
set_option maxHeartbeats 3200000 in
theorem zzBuild (V : Value) (L : List Evt) (w : World) (hV : EvS w V L) (hL : GoodE L) (hN : L.length ≤ 4096) :
    Calls Try.prog 6 #[V] w fun e w' => e = .returned (.pointer (some ⟨w.heap.size, 0, none⟩)) ∧ BuildI w L L.length w' := by
  obtain ⟨ao, n, c, rfl, hn, hr⟩ := hV
  have HN : Hid (n = L.length) := hn
  have HR := (show Hid _ from hr)
  have HG : Hid (GoodE L) := hL
  have hn12 : n ≤ 4096 := by omega
  have HSt : Hid (BuildI w L 0 (w.alloc (.cells #[.map none, .map none] 44))) := by
    refine ⟨(Kept.refl _ _).alloc _, fun _ => [], (clock_new w).mono (fun k h => ?_) (fun k h => h.2) (Nat.le_refl _), fun k x => ?_, fun _ => Nat.le_refl _⟩
    · simp; omega
    · simp [mem_nil, cov]
  clear hn hr hL hN
  go_enter Try.func6, Try.ntmps6
  go_wp2_with fail
  go_loopw [4] (fun i wr => ∃ ii : Nat, i = .int .i64 ii ∧ ii ≤ n ∧ BuildI w L ii wr) (fun i _ => n - (intOf i).toNat)
  case atStart => exact ⟨0, rfl, Nat.zero_le _, HSt.out⟩
  case round =>
    obtain ⟨ii, rfl, hin, hb⟩ := hrel
    have HB := (show Hid (BuildI w L ii wr) from hb)
    clear hb HSt
    by_cases hlt : ii < n
    · have hil : ii < L.length := by rw [← HN.out]; exact hlt
      have hLne : L ≠ [] := fun h => by rw [h] at hil; simp at hil
      obtain ⟨g, off, hao, hgw, hcs⟩ := HR.out hLne
      obtain ⟨hkw, K, hck, hm, hl⟩ := HB.out
      obtain ⟨c0, c1, c2⟩ := hcs ii hlt
      have c0 := hkw.cell c0 (fun h => h)
      have c1 := hkw.cell c1 (fun h => h)
      have c2 := hkw.cell c2 (fun h => h)
      obtain ⟨hs, h0, hlh, hhi⟩ := HG.out _ (show L.getD ii evt0 ∈ L by simp [List.getD, hil])
      have hKl : (K (key (L.getD ii evt0).1)).length ≤ 1099511627776 := by have := hl (key (L.getD ii evt0).1); omega
      have hst : Hid (∀ e w', AddPost w.heap.size (L.getD ii evt0).1 (L.getD ii evt0).2.1 (L.getD ii evt0).2.2 (fun k => w.heap.size ≤ k ∧ k < wr.heap.size) K ii wr.drew e w' → e = .returned (.tuple #[]) ∧ BuildI w L (ii + 1) w') := fun e w' hp => build_step (wr := wr.drew) hkw.drew hil hm hl hp
      have HCK : Hid (Clock wr.drew w.heap.size (fun k => w.heap.size ≤ k ∧ k < wr.heap.size) K ii) := hck.later ((Kept.refl none' wr).drew) (fun _ _ h => h)
      obtain ⟨ev, hev⟩ : ∃ ev, ev = L.getD ii evt0 := ⟨_, rfl⟩
      rw [← hev] at c0 c1 c2 hs h0 hlh hhi hKl hst
      obtain ⟨a, lo, hi⟩ := ev
      subst hao
      have hlt' : (ii : Int) < (n : Int) := by omega
      have hi0 : (0 : Int) ≤ (ii : Int) := by omega
      clear hcs hkw hck hm hl hev hLne hil
      go_upto_block 1 with fail
      go_cut [4] from 13 to 29 (fun t wx => t = .int .i64 ii ∧ BuildI w L (ii + 1) wx)
      case first =>
        go_upto_region 5 with fail
        go_region_with (go_at_call 17; refine (zzAddSpan w.heap.size a lo hi (fun k => w.heap.size ≤ k ∧ k < wr.heap.size) K ii wr.drew hs h0 hlh hhi HCK.out hKl (by omega)).mono ?_; intro e w' hp; obtain ⟨rfl, hb⟩ := hst.out e w' hp; have HB2 := (show Hid (BuildI w L (ii + 1) w') from hb); clear hb hp)
        all_goals
          go_wp2_with fail
          go_meet
          exact ⟨rfl, HB2.out⟩
      case rest =>
        obtain ⟨rfl, hb⟩ := hcut
        have HB2 := (show Hid (BuildI w L (ii + 1) wc) from hb)
        clear hb
        go_wp2_with fail
        go_roundw
        case rel => exact ⟨ii + 1, by go_num, by omega, HB2.out⟩
        case measure => simp [intOf]; omega
    · have hii : ii = n := by omega
      go_wp2_with fail
      go_ret
      refine ⟨rfl, ?_⟩
      rw [← HN.out, ← hii]
      exact HB.out
end Go.Proofs.Qxb6630298a
