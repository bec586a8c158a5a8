/-
  THE WALK OF THE LAW 'FnOutcomeInsertAnyMessage'.
-/
import Derived.Test.Qxb6630391aInsert
namespace Go.Proofs.Qxb6630391a
open Go.RowKit

/-- The new message, in its own block. -/
def insBlock (level : Int) (g : ByteArray) : Obj := .cells #[.int .i64 level, .string g, .map none] 28
/-- The law's memory at a round's head. -/
def InsRel (w : World) (gb ga len : Nat) (L : List (Int × ByteArray)) (level : Int) (g : ByteArray) (p k m : Nat) (wr : World) : Prop :=
  k ≤ len ∧ m = k + (if p < k then 1 else 0) ∧ wr.ownsRow (w.heap.size + 1) 28 3 (.slice (some ⟨gb, 0, none⟩) k len) k (mcells (L.take k)) ∧
  wr.ownsRow (w.heap.size + 1) 28 3 (.slice (some ⟨ga, 0, none⟩) m (len + 1)) m (mcells (aft L (level, g) p k)) ∧ Below (w.heap.size + 1) (w.alloc (insBlock level g)) wr

theorem ret_true {b : Bool} (h : b = true) : Ending.returned (.bool b) = .returned (.bool true) := by rw [h]
theorem m_step {m q p : Nat} (hqp : ¬ q = p) (h : m = q + if p < q then 1 else 0) : m + 1 = q + 1 + if p < q + 1 then 1 else 0 := by
  rw [h]
  repeat' split
  all_goals omega
theorem news_cells2 (w : World) (o : Obj) (l : Int) (s : ByteArray) (T : TypeId) : ∀ j u, ([.int .i64 l, .string s, .map none] : List Value)[j]? = some u →
    ((w.alloc o).alloc (.cells #[.int .i64 l, .string s, .map none] T)).drew.cell? ((⟨w.heap.size + 1, 0, none⟩ : Addr).add j) = some u := by
  intro j u hj
  have h := news_cells (w.alloc o) l s T j u hj
  rw [show (w.alloc o).heap.size = w.heap.size + 1 by simp] at h
  exact h
theorem InsRel.cellsAt {w : World} {gb ga len : Nat} {L : List (Int × ByteArray)} {level : Int} {g : ByteArray} {p k m : Nat} {wr : World} (h : InsRel w gb ga len L level g p k m wr) :
    wr.cell? ⟨w.heap.size, 0, none⟩ = some (.int .i64 level) ∧ wr.cell? ⟨w.heap.size, 1, none⟩ = some (.string g) ∧ wr.cell? ⟨w.heap.size, 2, none⟩ = some (.map none) := by
  have hb := h.2.2.2.2
  refine ⟨?_, ?_, ?_⟩ <;> (rw [hb.cell (by simp)]; simp [insBlock])
theorem InsRel.old {w : World} {gb ga len : Nat} {L : List (Int × ByteArray)} {level : Int} {g : ByteArray} {p k m : Nat} {wr : World} (h : InsRel w gb ga len L level g p k m wr) : Below w.heap.size w wr :=
  ((Below.refl _ _).alloc (Nat.le_refl _) _).trans (h.2.2.2.2.mono (by omega))

set_option maxRecDepth 100000 in
set_option maxHeartbeats 4000000 in
theorem insert_main (d t g : ByteArray) (a2 : Option Addr) (len cap2 : Nat) (a3 : Option Addr) (cap3 : Nat) (p : Nat) (level : Int) (ls : List Int) (ss : List ByteArray) (w : World)
    (HT : Hid (Calls Try.prog 5 #[.string d, .string t, .slice a2 len cap2, .slice a3 len cap3, .int .i64 p, .int .i64 level, .string g] w fun e w' => e = .returned (.bool true) ∧ w' = w))
    (hd : d.size ≤ 1048576) (ht : t.size ≤ 1048576) (hg : g.size ≤ 1048576) (h65 : len ≤ 65536) (h8 : d.size + t.size + g.size + 16 * len ≤ 1048576) (hp : p ≤ len)
    (hs : ∀ i, i < len → (ss.getD i ByteArray.empty).size ≤ 1048576) (e2 : Elems w a2 len ls) (e3 : SElems w a3 len ss) :
    Calls Try.prog 3 #[.string d, .string t, .slice a2 len cap2, .slice a3 len cap3, .int .i64 p, .int .i64 level, .string g] w fun e w' => e = .returned (.bool true) ∧ Below w.heap.size w w' := by
  obtain ⟨i0, hi, hz0, hz1, hz2⟩ := info_parts Try.info28
  have E2 := (show Hid _ from e2)
  have E3 := (show Hid _ from e3)
  have HS := (show Hid _ from hs)
  clear e2 e3 hs
  go_enter Try.func3, Try.ntmps3
  go_wp2_with (go_at_call 5; refine Calls.mono HT ?_; rintro e wz ⟨rfl, rfl⟩)
  go_loop [15, 16] (fun z i => ∃ (k : Nat) (n : Int), k ≤ len ∧ i = .int .i64 k ∧ z = .int .i64 n ∧ 0 ≤ n ∧ n ≤ 1048576) (fun _ i => len - (intOf i).toNat)
  case atStart => exact ⟨0, _, Nat.zero_le _, rfl, rfl, by omega, by omega⟩
  case round =>
    obtain ⟨k, n, hk, rfl, rfl, hn0, hn1⟩ := hrel
    by_cases hlt : k < len
    · obtain ⟨b', off, hb, hbw, hc⟩ := E3.out.lie (by omega)
      have c := hc k hlt
      have hsm := HS.out k hlt
      obtain ⟨s, hs⟩ : ∃ s, s = ss.getD k ByteArray.empty := ⟨_, rfl⟩
      rw [← hs] at c hsm
      clear hs hc
      subst hb
      go_wp2
      · go_ret
        exact ⟨rfl, Below.refl _ _⟩
      · go_round
        case rel => exact ⟨k + 1, _, by omega, by go_num, rfl, by omega, by omega⟩
        case measure => simp [intOf]; omega
    · have hkl : k = len := by omega
      subst hkl
      have hW0 : (wz.alloc (insBlock level g)).heap.size = wz.heap.size + 1 := by simp
      go_wp2_with (at_make; refine wpList_make_own _ rfl _ (.tmp 106) 29 rfl (wz.heap.size + 1) 28 i0 _ 3 Try.underlying29 hi hz0 hz1 _ _ _ k rfl rfl ?c1 ?c2 ?c3 ?c4 ?_)
      case c1 => simp
      case c2 => omega
      case c3 => unfold maxLen; omega
      intro w1 ho1 hg1
      have hb1 : Below (wz.heap.size + 1) (wz.alloc (insBlock level g)) w1 := (Below.refl _ _).grown hg1 (by simp [insBlock]) (by simp)
      clear hg1
      go_wp2_with (at_make; refine wpList_make_own _ rfl _ (.tmp 110) 29 rfl (wz.heap.size + 1) 28 i0 _ 3 Try.underlying29 hi hz0 hz1 _ _ _ (k + 1) rfl rfl ?d1 ?d2 ?d3 ?d4 ?_)
      case d1 => simp
      case d2 => rw [hz2]; omega
      case d3 => unfold maxLen; omega
      case d4 => have := hb1.size; rw [hW0] at this; exact this
      intro w2 ho2 hg2
      have hb2 : Below (wz.heap.size + 1) (wz.alloc (insBlock level g)) w2 := hb1.grown hg2 (by have := hb1.size; rw [hW0] at this; exact this) (by simp)
      have hga : wz.heap.size + 1 < w1.heap.size := (ho1.lt _ rfl).2
      have ho1 := ho1.kept hg2 (.inr (by simp [Value.ownBlock]))
      clear hg2 hb1
      go_wp2_with fail
      go_loopw [18, 19, 20] (fun vb va i wr => ∃ q m : Nat, i = .int .i64 q ∧ vb = .slice (some ⟨wz.heap.size + 1, 0, none⟩) q k ∧ va = .slice (some ⟨w1.heap.size, 0, none⟩) m (k + 1) ∧ InsRel wz (wz.heap.size + 1) w1.heap.size k (ls.zip ss) level g p q m wr) (fun _ _ i _ => k - (intOf i).toNat)
      case atStart => exact ⟨0, 0, rfl, rfl, rfl, Nat.zero_le _, by simp, ho1, ho2, hb2⟩
      case round =>
        clear ho1 ho2 hb2
        obtain ⟨q, m, rfl, rfl, rfl, hR⟩ := hrel
        by_cases hql : q < k
        · obtain ⟨b2, off2, ha2, hbw2, hc2⟩ := E2.out.lie (by omega)
          obtain ⟨b3, off3, ha3, hbw3, hc3⟩ := E3.out.lie (by omega)
          have c2 := (hR.old.cell (p := ⟨b2, off2 + q, none⟩) hbw2).trans (hc2 q hql)
          have c3 := (hR.old.cell (p := ⟨b3, off3 + q, none⟩) hbw3).trans (hc3 q hql)
          obtain ⟨d0, d1, d2⟩ := hR.cellsAt
          obtain ⟨l, hl⟩ : ∃ l, l = ls.getD q 0 := ⟨_, rfl⟩
          obtain ⟨s, hs⟩ : ∃ s, s = ss.getD q ByteArray.empty := ⟨_, rfl⟩
          rw [← hl] at c2
          rw [← hs] at c3
          have HL : Hid (l = ls.getD q 0 ∧ s = ss.getD q ByteArray.empty) := ⟨hl, hs⟩
          have HR := (show Hid _ from hR)
          have hwr : ∀ (o : Obj) (a : Addr) (v : Value), wr.cell? a = some v → (wr.alloc o).cell? a = some v := fun o a v h => (World.cell?_of_block (Below.heap_alloc wr o a.block (World.block_lt_of_cell? wr a h))).trans h
          have c2a := fun o => hwr o _ _ c2
          have c3a := fun o => hwr o _ _ c3
          clear hwr
          subst ha2 ha3
          clear hl hs hc2 hc3 hR
          by_cases hqp : q = p
          · obtain ⟨_, hm, hob, hoa, hbl⟩ := HR.out
            have hmq : m = q := by rw [hm, hqp]; simp
            clear HR hm
            subst hmq
            subst hqp
            go_wp2_with (at_builtin; refine wpList_append_fits _ rfl (.tmp 121) (.tmp 123) 29 rfl (wz.heap.size + 1) 28 i0 3 Try.underlying29 hi hz1 w1.heap.size m (k + 1) _ rfl (hoa.alloc _) ⟨wr.heap.size, 0, none⟩ 1 1 [.int .i64 level, .string g, .map none] rfl rfl (news_cells _ _ _ _) (news_one _ _) (by omega) ?_)
            intro w3 hoa3 hg3
            have e0 : mcells (aft (ls.zip ss) (level, g) m m) ++ [.int .i64 level, .string g, .map none] = mcells ((ls.zip ss).take m ++ [(level, g)]) := by
              rw [aft_before (Nat.le_refl _), mcells_append]; rfl
            rw [e0] at hoa3
            clear e0
            have hob3 := (hob.alloc (.cells #[.int .i64 level, .string g, .map none] 28)).kept hg3 (.inr (by simp [Value.ownBlock]; omega))
            have hz3 : wz.heap.size + 1 ≤ wr.heap.size := by have := hbl.size; rw [hW0] at this; exact this
            have hbl3 := (hbl.alloc hz3 (.cells #[.int .i64 level, .string g, .map none] 28)).grown hg3 (by simp; omega) (by simp; omega)
            have c23 := hg3.cell (c2a _) (by simp; omega)
            have c33 := hg3.cell (c3a _) (by simp; omega)
            clear c2 c3 c2a c3a hoa hob hbl hg3 d0 d1 d2 HS
            have c2 : w3.cell? ⟨b2, off2 + m, none⟩ = some (.int .i64 l) := c23
            have c3 : w3.cell? ⟨b3, off3 + m, none⟩ = some (.string s) := c33
            clear c23 c33
            have hwr : ∀ (o : Obj) (a : Addr) (v : Value), w3.cell? a = some v → (w3.alloc o).cell? a = some v := fun o a v h => (World.cell?_of_block (Below.heap_alloc w3 o a.block (World.block_lt_of_cell? w3 a h))).trans h
            have c2a := fun o => hwr o _ _ c2
            have c3a := fun o => hwr o _ _ c3
            clear hwr
            have hob := hob3
            have hoa := hoa3
            have hbl := hbl3
            clear hob3 hoa3 hbl3
            go_wp2_with fail
            have hgb : wz.heap.size + 1 < w3.heap.size := (hob.lt _ rfl).2
            go_region
            go_wp2_with (at_builtin; refine wpList_append_fits _ rfl (.tmp 134) (.tmp 136) 29 rfl (wz.heap.size + 1) 28 i0 3 Try.underlying29 hi hz1 (wz.heap.size + 1) m k _ rfl (((hob.alloc _).alloc _).drew) ⟨w3.heap.size + 1, 0, none⟩ 1 1 [.int .i64 l, .string s, .map none] rfl rfl (news_cells2 _ _ _ _ _) (news_one _ _) (by omega) ?_)
            intro w4 hob4 hg4
            have m0 : w4.cell? ⟨w3.heap.size, 0, none⟩ = some (.int .i64 l) := hg4.cell (by simp [go_sem]) (by simp; omega)
            have m1 : w4.cell? ⟨w3.heap.size, 1, none⟩ = some (.string s) := hg4.cell (by simp [go_sem]) (by simp; omega)
            have m2 : w4.cell? ⟨w3.heap.size, 2, none⟩ = some (.map none) := hg4.cell (by simp [go_sem]) (by simp; omega)
            have hoa4 := (((hoa.alloc (.cells #[.int .i64 l, .string s, .map none] 28)).alloc (.cells #[.int .i64 l, .string s, .map none] 28)).drew).kept hg4 (.inr (by simp [Value.ownBlock]; omega))
            have hz4 : wz.heap.size + 1 ≤ w3.heap.size := by have := hbl.size; rw [hW0] at this; exact this
            have hbl4 := ((((hbl.alloc hz4 (.cells #[.int .i64 l, .string s, .map none] 28)).alloc (by simp; omega) (.cells #[.int .i64 l, .string s, .map none] 28)).drew)).grown hg4 (by simp; omega) (by simp)
            clear hg4 hob hoa hbl c2a c3a c2 c3
            go_wp2_with (at_builtin; refine wpList_append_fits _ rfl (.tmp 138) (.tmp 140) 29 rfl (wz.heap.size + 1) 28 i0 3 Try.underlying29 hi hz1 w1.heap.size (m + 1) (k + 1) _ rfl (hoa4.alloc _) ⟨w4.heap.size, 0, none⟩ 1 1 [.int .i64 l, .string s, .map none] rfl rfl (news_cells _ _ _ _) (news_one _ _) (by omega) ?_)
            intro w5 hoa5 hg5
            have hob5 := (hob4.alloc (.cells #[.int .i64 l, .string s, .map none] 28)).kept hg5 (.inr (by simp [Value.ownBlock]; omega))
            have hz5 : wz.heap.size + 1 ≤ w4.heap.size := by have := hbl4.size; rw [hW0] at this; exact this
            have hbl5 := (hbl4.alloc hz5 (.cells #[.int .i64 l, .string s, .map none] 28)).grown hg5 (by simp; omega) (by simp; omega)
            clear hg5 hob4 hoa4 hbl4 m0 m1 m2
            have HQ : Hid (m < (ls.zip ss).length) := by show _ < _; rw [List.length_zip, E2.out.hlen, E3.out.hlen]; omega
            have e1 : mcells ((ls.zip ss).take m) ++ [.int .i64 l, .string s, .map none] = mcells ((ls.zip ss).take (m + 1)) := by
              rw [take_snoc _ m HQ.out, mcells_append, zip_at, ← HL.out.1, ← HL.out.2]; rfl
            have e2 : mcells ((ls.zip ss).take m ++ [(level, g)]) ++ [.int .i64 l, .string s, .map none] = mcells (aft (ls.zip ss) (level, g) m (m + 1)) := by
              rw [aft_eq HQ.out, mcells_append (_ ++ _), zip_at, ← HL.out.1, ← HL.out.2]; rfl
            rw [e1] at hob5
            rw [e2] at hoa5
            have hR5 : InsRel wz (wz.heap.size + 1) w1.heap.size k (ls.zip ss) level g m (m + 1) ((m + 1) + 1) w5 := ⟨by omega, by rw [if_pos (by omega)], hob5, hoa5, hbl5⟩
            clear hob5 hoa5 hbl5 e1 e2
            go_wp2
            go_roundw
            case rel => exact ⟨m + 1, (m + 1) + 1, by go_num, rfl, rfl, hR5⟩
            case measure => simp [intOf]; omega
          · have hqp' : ((q : Int) == (p : Int)) = false := by simp; omega
            obtain ⟨_, hm, hob, hoa, hbl⟩ := HR.out
            have HM : Hid (m = q + if p < q then 1 else 0) := hm
            have hmk : m < k + 1 := by rw [hm]; split <;> omega
            clear HR hm
            go_wp2_with fail
            have hgb : wz.heap.size + 1 < wr.heap.size := (hob.lt _ rfl).2
            go_region
            go_wp2_with (at_builtin; refine wpList_append_fits _ rfl (.tmp 134) (.tmp 136) 29 rfl (wz.heap.size + 1) 28 i0 3 Try.underlying29 hi hz1 (wz.heap.size + 1) q k _ rfl (((hob.alloc _).alloc _).drew) ⟨wr.heap.size + 1, 0, none⟩ 1 1 [.int .i64 l, .string s, .map none] rfl rfl (news_cells2 _ _ _ _ _) (news_one _ _) (by omega) ?_)
            intro w4 hob4 hg4
            have m0 : w4.cell? ⟨wr.heap.size, 0, none⟩ = some (.int .i64 l) := hg4.cell (by simp [go_sem]) (by simp; omega)
            have m1 : w4.cell? ⟨wr.heap.size, 1, none⟩ = some (.string s) := hg4.cell (by simp [go_sem]) (by simp; omega)
            have m2 : w4.cell? ⟨wr.heap.size, 2, none⟩ = some (.map none) := hg4.cell (by simp [go_sem]) (by simp; omega)
            have hoa4 := (((hoa.alloc (.cells #[.int .i64 l, .string s, .map none] 28)).alloc (.cells #[.int .i64 l, .string s, .map none] 28)).drew).kept hg4 (.inr (by simp [Value.ownBlock]; omega))
            have hz4 : wz.heap.size + 1 ≤ wr.heap.size := by have := hbl.size; rw [hW0] at this; exact this
            have hbl4 := ((((hbl.alloc hz4 (.cells #[.int .i64 l, .string s, .map none] 28)).alloc (by simp; omega) (.cells #[.int .i64 l, .string s, .map none] 28)).drew)).grown hg4 (by simp; omega) (by simp)
            clear hg4 hob hoa hbl c2a c3a c2 c3
            go_wp2_with (at_builtin; refine wpList_append_fits _ rfl (.tmp 138) (.tmp 140) 29 rfl (wz.heap.size + 1) 28 i0 3 Try.underlying29 hi hz1 w1.heap.size m (k + 1) _ rfl (hoa4.alloc _) ⟨w4.heap.size, 0, none⟩ 1 1 [.int .i64 l, .string s, .map none] rfl rfl (news_cells _ _ _ _) (news_one _ _) (by omega) ?_)
            intro w5 hoa5 hg5
            have hob5 := (hob4.alloc (.cells #[.int .i64 l, .string s, .map none] 28)).kept hg5 (.inr (by simp [Value.ownBlock]; omega))
            have hz5 : wz.heap.size + 1 ≤ w4.heap.size := by have := hbl4.size; rw [hW0] at this; exact this
            have hbl5 := (hbl4.alloc hz5 (.cells #[.int .i64 l, .string s, .map none] 28)).grown hg5 (by simp; omega) (by simp; omega)
            clear hg5 hob4 hoa4 hbl4 m0 m1 m2
            have HQ : Hid (q < (ls.zip ss).length) := by show _ < _; rw [List.length_zip, E2.out.hlen, E3.out.hlen]; omega
            have e1 : mcells ((ls.zip ss).take q) ++ [.int .i64 l, .string s, .map none] = mcells ((ls.zip ss).take (q + 1)) := by
              rw [take_snoc _ q HQ.out, mcells_append, zip_at, ← HL.out.1, ← HL.out.2]; rfl
            have e2 : mcells (aft (ls.zip ss) (level, g) p q) ++ [.int .i64 l, .string s, .map none] = mcells (aft (ls.zip ss) (level, g) p (q + 1)) := by
              rw [aft_lt HQ.out hqp, mcells_append, zip_at, ← HL.out.1, ← HL.out.2]; rfl
            rw [e1] at hob5
            rw [e2] at hoa5
            have hR5 : InsRel wz (wz.heap.size + 1) w1.heap.size k (ls.zip ss) level g p (q + 1) (m + 1) w5 := ⟨by omega, by exact m_step hqp HM.out, hob5, hoa5, hbl5⟩
            clear hob5 hoa5 hbl5 e1 e2
            go_wp2
            go_roundw
            case rel => exact ⟨q + 1, m + 1, by go_num, rfl, rfl, hR5⟩
            case measure => simp [intOf]; omega
        · obtain rfl : q = k := by have := hR.1; omega
          obtain ⟨d0, d1, d2⟩ := hR.cellsAt
          have HR := (show Hid _ from hR)
          have hold := hR.old
          clear hR
          have HLq : Hid ((ls.zip ss).length = q) := by show _ = _; rw [List.length_zip, E2.out.hlen, E3.out.hlen]; omega
          obtain ⟨_, hm, hob, hoa, hbl⟩ := HR.out
          rw [List.take_of_length_le (by rw [HLq.out]; exact Nat.le_refl _)] at hob
          have HZ : Hid ((ls.zip ss).map (·.1) = ls) := zip_fst ls ss (by rw [E2.out.hlen, E3.out.hlen])
          by_cases hpk : p = q
          · have hmq : m = q := by rw [hm, hpk]; simp
            clear HR hm
            subst hmq
            subst hpk
            go_wp2_with (at_builtin; refine wpList_append_fits _ rfl (.tmp 146) (.tmp 148) 29 rfl (wz.heap.size + 1) 28 i0 3 Try.underlying29 hi hz1 w1.heap.size p (p + 1) _ rfl (hoa.alloc _) ⟨wr.heap.size, 0, none⟩ 1 1 [.int .i64 level, .string g, .map none] rfl rfl (news_cells _ _ _ _) (news_one _ _) (by omega) ?_)
            intro w3 hoa3 hg3
            have e0 : mcells (aft (ls.zip ss) (level, g) p p) ++ [.int .i64 level, .string g, .map none] = mcells (ls.zip ss ++ [(level, g)]) := by
              rw [aft_before (Nat.le_refl _), List.take_of_length_le (by rw [HLq.out]; exact Nat.le_refl _), mcells_append]; rfl
            rw [e0] at hoa3
            clear e0
            have hob3 := (hob.alloc (.cells #[.int .i64 level, .string g, .map none] 28)).kept hg3 (.inr (by simp [Value.ownBlock]; omega))
            have hold3 := (hold.alloc hold.size (.cells #[.int .i64 level, .string g, .map none] 28)).grown hg3 (by have := hold.size; simp; omega) (by simp; omega)
            clear hoa hob hbl hg3 d0 d1 d2 HS hold
            go_wp2_with fail
            refine (outcome_any _ _ (wz.heap.size + 1) (wz.heap.size + 1) p p (ls.zip ss) w3 HLq.out (by omega) hob3).mono ?_
            rintro e x1 ⟨rfl, hx1⟩
            have hoa := owns_later hoa3 hx1
            have hold := hold3.trans (hx1.mono hold3.size)
            clear hx1 hoa3 hob3 hold3
            go_wp2_with fail
            refine (outcome_any _ _ (wz.heap.size + 1) w1.heap.size (p + 1) (p + 1) (ls.zip ss ++ [(level, g)]) x1 (by rw [List.length_append, HLq.out]; rfl) (by omega) hoa).mono ?_
            rintro e x2 ⟨rfl, hx2⟩
            rw [end_oc]
            have hold := hold.trans (hx2.mono hold.size)
            clear hx2 hoa
            go_wp2_with fail
            refine (sev_any _ _).mono ?_
            rintro e y1 ⟨rfl, hy1⟩
            rw [hy1]
            clear hy1
            go_wp2_with fail
            refine (worse_any _ _ _).mono ?_
            rintro e y2 ⟨rfl, hy2⟩
            rw [hy2]
            clear hy2
            go_wp2_with fail
            go_ret
            exact ⟨ret_true (by simp), hold⟩
          · have hmq : m = q + 1 := by rw [hm, if_pos (by omega)]
            clear HR hm
            subst hmq
            have hpk' : ((p : Int) == (q : Int)) = false := by simp; omega
            go_wp2_with fail
            refine (outcome_any _ _ (wz.heap.size + 1) (wz.heap.size + 1) q q (ls.zip ss) wr HLq.out (by omega) hob).mono ?_
            rintro e x1 ⟨rfl, hx1⟩
            have hoa := owns_later hoa hx1
            have hold := hold.trans (hx1.mono hold.size)
            clear hx1 hob hbl d0 d1 d2 HS
            go_wp2_with fail
            refine (outcome_any _ _ (wz.heap.size + 1) w1.heap.size (q + 1) (q + 1) (aft (ls.zip ss) (level, g) p q) x1 (by rw [aft_len (by rw [HLq.out]; exact Nat.le_refl _), if_pos (by omega)]) (by omega) hoa).mono ?_
            rintro e x2 ⟨rfl, hx2⟩
            have e5 : oc ((aft (ls.zip ss) (level, g) p q).map (·.1)) = worse (oc ((ls.zip ss).map (·.1))) (sev level) := by
              have h := aft_oc (L := ls.zip ss) (x := (level, g)) (p := p) (by rw [HLq.out]; omega)
              rw [HLq.out] at h
              exact h
            rw [e5]
            clear e5
            have hold := hold.trans (hx2.mono hold.size)
            clear hx2 hoa
            go_wp2_with fail
            refine (sev_any _ _).mono ?_
            rintro e y1 ⟨rfl, hy1⟩
            rw [hy1]
            clear hy1
            go_wp2_with fail
            refine (worse_any _ _ _).mono ?_
            rintro e y2 ⟨rfl, hy2⟩
            rw [hy2]
            clear hy2
            go_wp2_with fail
            go_ret
            exact ⟨ret_true (by simp), hold⟩

set_option maxRecDepth 100000 in
set_option maxHeartbeats 4000000 in
theorem insert_skip (d t g : ByteArray) (a2 : Option Addr) (len2 cap2 : Nat) (a3 : Option Addr) (len3 cap3 : Nat) (p : Int) (level : Int) (ss : List ByteArray) (w : World)
    (HT : Hid (Calls Try.prog 5 #[.string d, .string t, .slice a2 len2 cap2, .slice a3 len3 cap3, .int .i64 p, .int .i64 level, .string g] w fun e w' => e = .returned (.bool true) ∧ w' = w))
    (hd : d.size ≤ 1048576) (ht : t.size ≤ 1048576) (hg : g.size ≤ 1048576) (h65 : len2 ≤ 65536) (h66 : len3 ≤ 65536) (h8 : d.size + t.size + g.size + 8 * len2 + 8 * len3 ≤ 1048576)
    (hs : ∀ i, i < len3 → (ss.getD i ByteArray.empty).size ≤ 1048576) (e3 : SElems w a3 len3 ss) (hp : len3 ≠ len2 ∨ len3 = len2 ∧ (p < 0 ∨ len2 < p)) :
    Calls Try.prog 3 #[.string d, .string t, .slice a2 len2 cap2, .slice a3 len3 cap3, .int .i64 p, .int .i64 level, .string g] w fun e w' => e = .returned (.bool true) ∧ Below w.heap.size w w' := by
  have E3 := (show Hid _ from e3)
  have HS := (show Hid _ from hs)
  have HP := (show Hid _ from hp)
  clear e3 hs hp
  go_enter Try.func3, Try.ntmps3
  go_wp2_with (go_at_call 5; refine Calls.mono HT ?_; rintro e wz ⟨rfl, rfl⟩)
  go_loop [15, 16] (fun z i => ∃ (k : Nat) (n : Int), k ≤ len3 ∧ i = .int .i64 k ∧ z = .int .i64 n ∧ 0 ≤ n ∧ n ≤ 1048576) (fun _ i => len3 - (intOf i).toNat)
  case atStart => exact ⟨0, _, Nat.zero_le _, rfl, rfl, by omega, by omega⟩
  case round =>
    obtain ⟨k, n, hk, rfl, rfl, hn0, hn1⟩ := hrel
    by_cases hlt : k < len3
    · obtain ⟨b', off, hb, hbw, hc⟩ := E3.out.lie (by omega)
      have c := hc k hlt
      have hsm := HS.out k hlt
      obtain ⟨s, hs⟩ : ∃ s, s = ss.getD k ByteArray.empty := ⟨_, rfl⟩
      rw [← hs] at c hsm
      clear hs hc
      subst hb
      go_wp2
      · go_ret
        exact ⟨rfl, Below.refl _ _⟩
      · go_round
        case rel => exact ⟨k + 1, _, by omega, by go_num, rfl, by omega, by omega⟩
        case measure => simp [intOf]; omega
    · rcases HP.out with hne | ⟨heq, hp | hp⟩
      · have hne' : ((len3 : Int) != (len2 : Int)) = true := by simp; omega
        go_wp2
        go_ret
        exact ⟨rfl, Below.refl _ _⟩
      · have hne' : ((len3 : Int) != (len2 : Int)) = false := by simp; omega
        clear heq
        go_wp2
        go_ret
        exact ⟨rfl, Below.refl _ _⟩
      · have hne' : ((len3 : Int) != (len2 : Int)) = false := by simp; omega
        have h0 : ¬ p < 0 := by omega
        clear heq
        go_wp2
        go_ret
        exact ⟨rfl, Below.refl _ _⟩
end Go.Proofs.Qxb6630391a
