/-
  THE WALKS of the two zzBytes: a bool; the world stays.
-/
import Derived.Test.Qxb6630298aBuild
namespace Go.Proofs.Qxb6630298a
open Go.RowKit Go.Maps

theorem EvS.at {w : World} {ao : Option Addr} {n c : Nat} {L : List Evt} (h : EvS w (.slice ao n c) L) (i : Nat) (hi : i < n) : ∃ g off s, ao = some ⟨g, off, none⟩ ∧ w.cell? ⟨g, off + i * 3, none⟩ = some (.string s) ∧ w.cell? ⟨g, off + i * 3 + 1, none⟩ = some (.int .u64 (L.getD i evt0).2.1) ∧ w.cell? ⟨g, off + i * 3 + 2, none⟩ = some (.int .u64 (L.getD i evt0).2.2) ∧ s = (L.getD i evt0).1 := by
  obtain ⟨ao', n', c', e, hn, hr⟩ := h
  cases e
  obtain ⟨g, off, rfl, _, hcs⟩ := hr (fun h => by rw [h] at hn; simp at hn; omega)
  obtain ⟨h1, h2, h3⟩ := hcs i hi
  exact ⟨g, off, _, rfl, h1, h2, h3, rfl⟩

/-- A bool; the world as it was. -/
def BoolPost (w : World) (e : Ending) (w' : World) : Prop := ∃ b : Bool, e = .returned (.bool b) ∧ w' = w

set_option maxRecDepth 100000 in
set_option maxHeartbeats 3200000 in
theorem bytes15 (aa ab : Option Addr) (na nb ca cb : Nat) (La Lb : List Evt) (w : World) (ha : EvS w (.slice aa na ca) La) (hb : EvS w (.slice ab nb cb) Lb) :
    Calls Try.prog 15 #[.slice aa na ca, .slice ab nb cb] w fun e w' => BoolPost w e w' := by
  have HA := (show Hid (EvS w (.slice aa na ca) La) from ha)
  have HB := (show Hid (EvS w (.slice ab nb cb) Lb) from hb)
  clear ha hb
  go_enter Try.func15, Try.ntmps15
  by_cases hna : (na : Int) > 1048576
  · go_wp2_with fail
    go_ret
    exact ⟨_, rfl, rfl⟩
  · have hna' : na ≤ 1048576 := by omega
    have hadd : decide ((na : Int) > 1048576) = false := decide_eq_false hna
    go_wp2_with fail
    go_loopw [5, 6] (fun z i wr => wr = w ∧ ∃ (zz : Int) (ii : Nat), z = .int .i64 zz ∧ i = .int .i64 ii ∧ ii ≤ na) (fun _ i _ => na - (intOf i).toNat)
    case atStart => exact ⟨rfl, _, 0, by go_num, rfl, Nat.zero_le _⟩
    case round =>
      obtain ⟨hwr, zz, ii, rfl, rfl, hii⟩ := hrel
      rw [hwr]
      clear hwr
      by_cases hlt : ii < na
      · obtain ⟨g, off, s, hao, c0, _, _, _⟩ := HA.out.at ii hlt
        subst hao
        have hlt' : (ii : Int) < (na : Int) := by omega
        have hi0 : (0 : Int) ≤ (ii : Int) := by omega
        go_wp2_with fail
        all_goals first
          | (go_ret; exact ⟨_, rfl, rfl⟩)
          | exact ⟨⟨trivial, _, ii + 1, rfl, by go_num, by omega⟩, by simp [intOf]; omega⟩
      · by_cases hnb : (nb : Int) > 1048576
        · go_wp2_with fail
          go_ret
          exact ⟨_, rfl, rfl⟩
        · have hnb' : nb ≤ 1048576 := by omega
          have hbdd : decide ((nb : Int) > 1048576) = false := decide_eq_false hnb
          go_wp2_with fail
          · go_ret
            exact ⟨_, rfl, rfl⟩
          · go_loopw [5, 7] (fun z i wr => wr = w ∧ ∃ (zz : Int) (ii : Nat), z = .int .i64 zz ∧ i = .int .i64 ii ∧ ii ≤ nb) (fun _ i _ => nb - (intOf i).toNat)
            case atStart => exact ⟨rfl, _, 0, rfl, rfl, Nat.zero_le _⟩
            case round =>
              obtain ⟨hwr, zz, ii, rfl, rfl, hii⟩ := hrel
              rw [hwr]
              clear hwr
              by_cases hlt : ii < nb
              · obtain ⟨g, off, s, hao, c0, _, _, _⟩ := HB.out.at ii hlt
                subst hao
                have hlt' : (ii : Int) < (nb : Int) := by omega
                have hi0 : (0 : Int) ≤ (ii : Int) := by omega
                go_wp2_with fail
                all_goals first
                  | (go_ret; exact ⟨_, rfl, rfl⟩)
                  | exact ⟨⟨trivial, _, ii + 1, rfl, by go_num, by omega⟩, by simp [intOf]; omega⟩
              · go_wp2_with fail
                go_ret
                exact ⟨_, rfl, rfl⟩

set_option maxRecDepth 100000 in
set_option maxHeartbeats 3200000 in
theorem bytes5 (aa ab : Option Addr) (na nb ca cb : Nat) (La Lb : List Evt) (w : World) (ha : EvS w (.slice aa na ca) La) (hb : EvS w (.slice ab nb cb) Lb) :
    Calls Try.prog 5 #[.slice aa na ca, .slice ab nb cb] w fun e w' => BoolPost w e w' := by
  have HA := (show Hid (EvS w (.slice aa na ca) La) from ha)
  have HB := (show Hid (EvS w (.slice ab nb cb) Lb) from hb)
  clear ha hb
  go_enter Try.func5, Try.ntmps5
  by_cases hna : (na : Int) > 1048576
  · go_wp2_with fail
    go_ret
    exact ⟨_, rfl, rfl⟩
  · have hna' : na ≤ 1048576 := by omega
    have hadd : decide ((na : Int) > 1048576) = false := decide_eq_false hna
    go_wp2_with fail
    go_loopw [5, 6] (fun z i wr => wr = w ∧ ∃ (zz : Int) (ii : Nat), z = .int .i64 zz ∧ i = .int .i64 ii ∧ ii ≤ na) (fun _ i _ => na - (intOf i).toNat)
    case atStart => exact ⟨rfl, _, 0, by go_num, rfl, Nat.zero_le _⟩
    case round =>
      obtain ⟨hwr, zz, ii, rfl, rfl, hii⟩ := hrel
      rw [hwr]
      clear hwr
      by_cases hlt : ii < na
      · obtain ⟨g, off, s, hao, c0, _, _, _⟩ := HA.out.at ii hlt
        subst hao
        have hlt' : (ii : Int) < (na : Int) := by omega
        have hi0 : (0 : Int) ≤ (ii : Int) := by omega
        go_wp2_with fail
        all_goals first
          | (go_ret; exact ⟨_, rfl, rfl⟩)
          | exact ⟨⟨trivial, _, ii + 1, rfl, by go_num, by omega⟩, by simp [intOf]; omega⟩
      · by_cases hnb : (nb : Int) > 1048576
        · go_wp2_with fail
          go_ret
          exact ⟨_, rfl, rfl⟩
        · have hnb' : nb ≤ 1048576 := by omega
          have hbdd : decide ((nb : Int) > 1048576) = false := decide_eq_false hnb
          go_wp2_with fail
          · go_ret
            exact ⟨_, rfl, rfl⟩
          · go_loopw [5, 7] (fun z i wr => wr = w ∧ ∃ (zz : Int) (ii : Nat), z = .int .i64 zz ∧ i = .int .i64 ii ∧ ii ≤ nb) (fun _ i _ => nb - (intOf i).toNat)
            case atStart => exact ⟨rfl, _, 0, rfl, rfl, Nat.zero_le _⟩
            case round =>
              obtain ⟨hwr, zz, ii, rfl, rfl, hii⟩ := hrel
              rw [hwr]
              clear hwr
              by_cases hlt : ii < nb
              · obtain ⟨g, off, s, hao, c0, _, _, _⟩ := HB.out.at ii hlt
                subst hao
                have hlt' : (ii : Int) < (nb : Int) := by omega
                have hi0 : (0 : Int) ≤ (ii : Int) := by omega
                go_wp2_with fail
                all_goals first
                  | (go_ret; exact ⟨_, rfl, rfl⟩)
                  | exact ⟨⟨trivial, _, ii + 1, rfl, by go_num, by omega⟩, by simp [intOf]; omega⟩
              · go_wp2_with fail
                go_ret
                exact ⟨_, rfl, rfl⟩
end Go.Proofs.Qxb6630298a
