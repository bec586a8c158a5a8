/-
  THE WALK of Actors.
-/
import Derived.Test.Qxb6630298aSame
import Derived.Test.Qxb6630298aSort
import Derived.Maps.RangeWalk
import Derived.Maps.OwnSet
import Derived.Sort.KeysCollected
import Derived.Sort.OwnSorted
import Derived.Deep.DeepCutAuto
import Derived.Deep.CutBlock
import Derived.Deep.RegionLaw
import Derived.BigRegion
namespace Go.Proofs.Qxb6630298a
open Go.RowKit Go.Maps Go.Sort

theorem Try.info9 : (Try.prog.info? 9).map (fun i => (i.zero, i.size, i.bytes)) = some (some (.string ⟨#[]⟩), 1, 16) := by kernel_rfl

/-- Keys collected in a row of the call's own. -/
structure KeysRow (w : World) (v : Value) (ss : List (List UInt8)) (wx : World) : Prop where
  row : wx.ownsRow w.heap.size 9 1 v ss.length (ss.map encStr)
  nn : v ≠ .slice none 0 0
  kept : Kept none' w wx

theorem step_len {P : Program} {ops : Array Oper} {o : Oper} {a : Act} {w : World} {K : Act → World → Prop} {Q : Exit → Act → World → Prop} {E : Prop} (hg : o.guard = none) (s : Operand) (t : TypeId)
    (hop : o.op = Op.call { callee := Callee.builtin Builtin.len, args := #[s], argTypes := #[t] }) (m v : Value) (hs : a.eval s = m) (hrun : ∀ ty, (Builtin.len_ #[t] ty #[m]).run P w = .ok v w) (hK : K (a.put o.dst v) w) :
    if Region.wanted o (yielded ops a.tmps) = true then Oper.wp P o a w K Q else E := by
  have hw : Region.wanted o (yielded ops a.tmps) = true := by simp [Region.wanted, hg]
  rw [if_pos hw]
  unfold Oper.wp
  simp [execOp, hop, resolve, invoke, builtin, hs, hrun, Result.andThen]
  exact hK

theorem MapAt.len {w : World} {R : Value → Option (DataW Unit × List MemPlace)} {m : Option Nat} {n : Nat} {D : DataW Unit} {t e : TypeId} (h : MapAt w R m n D) (ht : Try.prog.underlying t = some (.map 9 e)) (ty : TypeId) : (Builtin.len_ #[t] ty #[.map m]).run Try.prog w = .ok (.int .i64 (Maps.size D)) w ∧ Maps.size D ≤ n := by
  rcases h with ⟨rfl, rfl⟩ | ⟨b, rfl, ho⟩
  · exact ⟨Maps.len_nil ht ty, Nat.zero_le _⟩
  · exact ⟨ho.len ht ty, ho.size_le⟩

/-- The keys of the first map, in some order. -/
def FirstKeys (w : World) (D : DataW Unit) (nm : Nat) (v : Value) (wx : World) : Prop :=
  ∃ ss : List (List UInt8), KeysRow w v ss wx ∧ ss.Nodup ∧ (∀ x, x ∈ ss ↔ Maps.has D (.string x) = true) ∧ ss.length ≤ nm
/-- The keys of both. -/
def BothKeys (w : World) (D E : DataW Unit) (nm : Nat) (v : Value) (wx : World) : Prop :=
  ∃ ss : List (List UInt8), KeysRow w v ss wx ∧ ss.Nodup ∧ (∀ x, x ∈ ss ↔ (Maps.has D (.string x) = true ∨ Maps.has E (.string x) = true)) ∧ ss.length ≤ 2 * nm

theorem MapAt.later {w w' : World} {R : Value → Option (DataW Unit × List MemPlace)} {m : Option Nat} {n : Nat} {D : DataW Unit} (h : MapAt w R m n D) (k : Kept none' w w') : MapAt w' R m n D :=
  h.imp id (fun ⟨b, e, ho⟩ => ⟨b, e, ownsMap_later ho k (fun h => h)⟩)
theorem MapAt.lookOk {w : World} {m : Option Nat} {n : Nat} {D : DataW Unit} (h : MapAt w (plainElem Try.prog 24) m n D) {x : List UInt8} (hx : x.length ≤ maxLen) :
    ∃ v, (Instr.lookup 41 (.map m) (encStr x) true).run Try.prog w = .ok (.tuple #[v, .bool (Maps.has D (.string x))]) w := by
  have hk : keyOf Try.prog 9 (encStr x) = some (.string x) := by
    have := keyOf_s (s := ⟨x.toArray⟩) (by simpa [ByteArray.size] using hx)
    simpa [encStr] using this
  rcases h with ⟨rfl, rfl⟩ | ⟨b, rfl, ho⟩
  · exact ⟨_, Maps.look_nil (w := w) true law Try.underlying41 (zero24 w) hk⟩
  · obtain ⟨v, ps, hrun, _⟩ := ho.look_ok law Try.underlying41 (zero24 w) (plainElem_int Try.underlying24 (by decide)) hk
    exact ⟨v, hrun⟩
theorem rawElem_shape {v : Value} {y : DataW Unit × List MemPlace} (h : rawElem v = some y) : ∃ c : Option Addr × Nat × Nat, v = .slice c.1 c.2.1 c.2.2 := by
  unfold rawElem at h
  split at h
  · exact ⟨(_, _, _), rfl⟩
  · exact ⟨(_, _, _), rfl⟩
  · cases h


theorem has_len {R : Value → Option (DataW Unit × List MemPlace)} {w : World} {b n : Nat} {D : DataW Unit} (h : w.ownsMap Try.prog 9 R b n D) {x : List UInt8} (hx : Maps.has D (.string x) = true) : x.length ≤ maxLen := by
  obtain ⟨es, rfl, hko⟩ := h.keysOf
  rw [Maps.has_eq, List.any_eq_true] at hx
  obtain ⟨p, hp, hs⟩ := hx
  obtain ⟨v, hv⟩ := hko p hp
  obtain ⟨y, _, hy, hl⟩ := Maps.keyOf_str Try.underlying9 hv
  rw [hy] at hs
  have : y = x := by simpa [Lit.sameKey] using hs
  rw [← this]; exact hl

theorem keys_of_row {w wx : World} {v : Value} {ss : List (List UInt8)} (h : KeysRow w v ss wx) : ∃ g cap cur, v = .slice (some ⟨g, 0, none⟩) ss.length cap ∧ w.heap.size ≤ g ∧ wx.heap[g]? = some (.cells cur 9 (0, 0)) ∧ ss.length ≤ cap ∧ cap ≤ maxLen ∧ cur.size = cap * 1 ∧ cur.toList.take ss.length = ss.map encStr := by
  rcases h.row.2 with ⟨hnil, _⟩ | ⟨g, cap, cur, rfl, hbase, hb, h1, h2, h3, h4⟩
  · exact absurd hnil h.nn
  · exact ⟨g, cap, cur, rfl, hbase, hb, h1, h2, h3, by simpa using h4⟩

theorem nonempty_iff {L : List (Int × Int)} (h : canon 1 L) : L ≠ [] ↔ (0 < bs L ∨ cl L ≠ []) := by
  cases L with
  | nil => simp [bs, cl]
  | cons p r =>
    obtain ⟨h1, h2, _⟩ := h
    by_cases hp : p.1 = 1
    · simp [bs, cl, hp]; left; omega
    · simp [bs, cl, hp]

theorem sort_sorted (ss : List (List UInt8)) : (ss.mergeSort (fun x y => decide (x ≤ y))).Pairwise (· ≤ ·) := by
  have tr : ∀ a b c : List UInt8, leB a b = true → leB b c = true → leB a c = true := fun a b c h1 h2 => by simp only [leB, decide_eq_true_eq] at *; exact List.le_trans h1 h2
  have tot : ∀ a b : List UInt8, (leB a b || leB b a) = true := fun a b => by simp only [leB, Bool.or_eq_true, decide_eq_true_eq]; exact List.le_total a b
  exact (List.pairwise_mergeSort tr tot ss).imp (fun {a b} h => by simpa [leB] using h)
/-- Two sorted lists without repeats that hold the same strings are equal. -/
theorem sorted_ext {S T : List (List UInt8)} (hS : S.Pairwise (· ≤ ·)) (nS : S.Nodup) (hT : T.Pairwise (· ≤ ·)) (nT : T.Nodup) (h : ∀ k, k ∈ S ↔ k ∈ T) : S = T :=
  List.Perm.eq_of_pairwise (le := fun a b => a ≤ b) (fun _ _ _ _ h1 h2 => List.le_antisymm h1 h2) hS hT ((List.perm_ext_iff_of_nodup nS nT).2 h)

/-- WHAT Actors ANSWERS: the keys that hold something, in order, in a row of the call's own. -/
def ActorsPost (K : List UInt8 → List (Int × Int)) (nm : Nat) (w : World) (e : Ending) (w' : World) : Prop :=
  ∃ V S, e = .returned V ∧ Kept none' w w' ∧ StrS w' (fun g => w.heap.size ≤ g) V S ∧ S.Pairwise (· ≤ ·) ∧ S.Nodup ∧ (∀ k, k ∈ S ↔ K k ≠ []) ∧ S.length ≤ 2 * nm ∧ ∀ k ∈ S, k.length ≤ maxLen

theorem actorsEnd {w wr : World} {D E : DataW Unit} {nm pb : Nat} {F : Nat → Prop} {K : List UInt8 → List (Int × Int)} {mb mc : Option Nat} {sl : List UInt8 → Loc} {ss : List (List UInt8)} {g cap n : Nat} {os : Array Obj} {cur : Array Value}
    (HC : IsClock w pb F K nm mb mc D E sl) (hk : Kept none' w wr) (hnd : ss.Nodup) (hm : ∀ x, x ∈ ss ↔ (Maps.has D (.string x) = true ∨ Maps.has E (.string x) = true)) (hl : ss.length ≤ 2 * nm)
    (hbase : w.heap.size ≤ g) (hb : wr.heap[g]? = some (.cells cur 9 (0, 0))) (h1 : ss.length ≤ cap) (h2 : cap ≤ maxLen) (h3 : cur.size = cap * 1) :
    ActorsPost K nm w (.returned (.slice (some ⟨g, 0, none⟩) ss.length cap)) (grow (putRow encStr (Sort.ahead wr n) g 0 (ss.mergeSort fun x y => decide (x ≤ y)).toArray) os) := by
  have hrow := ownsRow_sorted (n := n) (os := os) (ts := ss.mergeSort (fun x y => decide (x ≤ y))) (ss := ss) (by simp) hbase hb h1 h2 h3
  have hperm := List.mergeSort_perm ss (fun x y => decide (x ≤ y))
  refine ⟨_, ss.mergeSort (fun x y => decide (x ≤ y)), rfl, hk.grown (grownBy_sorted _) (fun k e hlt => by cases e; omega), ?_, sort_sorted ss, hperm.nodup_iff.2 hnd, fun k => ?_, by simpa using hl, fun k hk' => ?_⟩
  · rcases hrow.2 with ⟨hnil, _⟩ | ⟨g', cap', cur', e, hbase', hb', _, _, _, h4⟩
    · cases hnil
    · cases e
      refine ⟨_, _, _, rfl, by simp, fun _ => ⟨g, 0, cur', rfl, hbase, hb', fun i hi => ?_⟩⟩
      have h5 : (cur'.toList.take ss.length)[i]? = ((ss.mergeSort (fun x y => decide (x ≤ y))).map encStr)[i]? := by rw [← h4, Nat.mul_one]
      rw [List.getElem?_take_of_lt hi, Array.getElem?_toList] at h5
      rw [Nat.zero_add, h5]
      have hi' : i < (ss.mergeSort (fun x y => decide (x ≤ y))).length := by simpa using hi
      simp [List.getD, List.getElem?_eq_getElem hi']
  · rw [hperm.mem_iff, hm, nonempty_iff (HC.canon k), (HC.bases k).2, HC.clouds k]
    simp
  · have hx := (hm k).1 (hperm.mem_iff.1 hk')
    rcases hx with hx | hx
    · rcases HC.base with ⟨_, rfl⟩ | ⟨b, _, _, ho⟩
      · cases hx
      · exact has_len ho hx
    · rcases HC.cloud with ⟨_, rfl⟩ | ⟨b, _, _, ho⟩
      · cases hx
      · exact has_len ho hx


theorem own_ne {w : World} {base : Nat} {e : TypeId} {size : Nat} {v : Value} {n : Nat} {xs : List Value} (_ : w.ownsRow base e size v n xs) : v.ownBlock = none ∨ v.ownBlock ≠ none := Classical.em _

theorem both_end {w wx : World} {D E : DataW Unit} {nm : Nat} {v : Value} {ss uu : List (List UInt8)} {left : Lit → Bool} (hrow : KeysRow w v (ss ++ uu.filter (fun k => !Maps.has D (.string k))) wx) (hnd : ss.Nodup) (hme : ∀ x, x ∈ ss ↔ Maps.has D (.string x) = true)
    (hC : Collected E left uu) (hl0 : ∀ kl, left kl = false) (hn : ss.length + uu.length ≤ 2 * nm) : BothKeys w D E nm v wx := by
  refine ⟨_, hrow, ?_, fun x => ?_, ?_⟩
  · refine List.nodup_append.2 ⟨hnd, hC.1.sublist List.filter_sublist, fun a ha b hb e => ?_⟩
    subst e
    rw [List.mem_filter] at hb
    rw [(hme a).1 ha] at hb
    simp at hb
  · rw [List.mem_append, List.mem_filter, hme, hC.2, hl0]
    cases Maps.has D (.string x) <;> simp
  · have := List.length_filter_le (fun k => !Maps.has D (.string k)) uu
    simp only [List.length_append]
    omega

set_option maxRecDepth 100000 in
set_option maxHeartbeats 6400000 in
theorem actors (pb : Nat) (F : Nat → Prop) (K : List UInt8 → List (Int × Int)) (nm : Nat) (mb mc : Option Nat) (D E : DataW Unit) (sl : List UInt8 → Loc) (w : World) (hc : IsClock w pb F K nm mb mc D E sl) (hnm : nm ≤ 1073741824) :
    Calls Try.prog 14 #[.pointer (some ⟨pb, 0, none⟩)] w fun e w' => ActorsPost K nm w e w' := by
  have HC := (show Hid (IsClock w pb F K nm mb mc D E sl) from hc)
  obtain ⟨c0, c1, _⟩ := cell_struct hc.struct
  have hmD : MapAt w (plainElem Try.prog 24) mb nm D := hc.base.imp id (fun ⟨b, e, _, ho⟩ => ⟨b, e, ho⟩)
  have hmE : MapAt w rawElem mc nm E := hc.cloud.imp id (fun ⟨b, e, _, ho⟩ => ⟨b, e, ho⟩)
  have HD := (show Hid (MapAt w (plainElem Try.prog 24) mb nm D) from hmD)
  have HE := (show Hid (MapAt w rawElem mc nm E) from hmE)
  have hsD := (hmD.len Try.underlying41 0).2
  have hsE := (hmE.len Try.underlying42 0).2
  clear hc hmD hmE
  obtain ⟨i0, hi, hz0, hz1, hz2⟩ := info_parts Try.info9
  go_enter Try.func14, Try.ntmps14
  go_upto_region 1 with fail
  go_cut [3] from 8 to 19 (fun t wx => KeysRow w t [] wx)
  case first =>
    have hlD : Hid (∀ ty, (Builtin.len_ #[41] ty #[.map mb]).run Try.prog w.drew = .ok (.int .i64 (Maps.size D)) w.drew) := fun ty => ((show MapAt w.drew (plainElem Try.prog 24) mb nm D from HD.out).len Try.underlying41 ty).1
    have hlE : Hid (∀ ty, (Builtin.len_ #[42] ty #[.map mc]).run Try.prog w.drew = .ok (.int .i64 (Maps.size E)) w.drew) := fun ty => ((show MapAt w.drew rawElem mc nm E from HE.out).len Try.underlying42 ty).1
    obtain ⟨i0, hi0, hz0, hz1, hz2⟩ := info_parts Try.info9
    obtain ⟨wm, hmk, hown, hgr⟩ := run_make_own (P := Try.prog) w.drew w.heap.size 30 9 i0 _ 1 Try.underlying30 hi0 hz0 hz1 .i64 .i64 (Maps.size D + Maps.size E) (by rw [hz2]; omega) (by unfold maxLen; omega) (Nat.le_refl _)
    have hwr : IntKind.i64.wrap ((Maps.size D : Int) + (Maps.size E : Int)) = ((Maps.size D + Maps.size E : Nat) : Int) := by rw [IntKind.wrap_i64]; omega
    rw [← hwr] at hmk
    have HR : Hid (KeysRow w (.slice (some ⟨w.heap.size, 0, none⟩) 0 (Maps.size D + Maps.size E)) [] wm) := KeysRow.mk hown (fun h => by injection h with h _ _; cases h) (((Kept.refl none' w).drew).grown hgr (fun k e => by simp at e))
    clear hown hgr hwr
    go_region_law (first
      | refine step_len rfl (.tmp 11) 41 rfl (.map mb) _ (by simp [Act.eval]) hlD.out ?_
      | refine step_len rfl (.tmp 16) 42 rfl (.map mc) _ (by simp [Act.eval]) hlE.out ?_)
    all_goals
      go_wp2_with fail
      go_meet
      exact HR.out
  case rest =>
    have HR : Hid (KeysRow w u3 [] wc) := hcut
    clear hcut
    have d0 : wc.cell? ⟨pb, 0, none⟩ = some (.map mb) := HR.out.kept.cell c0 (fun h => h)
    have d1 : wc.cell? ⟨pb, 1, none⟩ = some (.map mc) := HR.out.kept.cell c1 (fun h => h)
    have HD1 : Hid (MapAt wc (plainElem Try.prog 24) mb nm D) := HD.out.later HR.out.kept
    obtain ⟨w1, hw1⟩ : ∃ w1, w1 = wc := ⟨_, rfl⟩
    subst hw1
    go_step
    go_step
    go_cut [3, 4] from 20 to 32 (fun t _ wx => FirstKeys w D nm t wx)
    case first =>
      rcases HD1.out with ⟨rfl, rfl⟩ | ⟨b, rfl, hown⟩
      · have hrg := run_range_nilMap (P := Try.prog) w1 41 9 24 Try.underlying41
        have hnx : ∀ ty, (Instr.next (.pointer (some ⟨w1.heap.size, 0, none⟩)) false ty).run Try.prog (w1.alloc (.mapIter none 0 #[] 0)) = _ := fun ty => run_next_nilMap _ ty 0 0 #[]
        go_wp2_with fail
        go_loopw [3] (fun v wr => v = u3 ∧ wr = w1.alloc (.mapIter none 0 #[] 0)) (fun _ _ => 0)
        case atStart => exact ⟨rfl, rfl⟩
        case round =>
          obtain ⟨rfl, hwr⟩ := hrel
          rw [hwr]
          clear hwr
          go_wp2_with fail
          go_meet
          exact ⟨[], ⟨HR.out.row.alloc _, HR.out.nn, HR.out.kept.alloc _⟩, List.nodup_nil, fun x => by simp [Maps.has_eq], Nat.zero_le _⟩
      · have HOW : Hid (w1.ownsMap Try.prog 9 (plainElem Try.prog 24) b nm D) := hown
        have hbl : b < w.heap.size := by
          rcases HD.out with ⟨h, _⟩ | ⟨b', e, ho⟩
          · cases h
          · cases e; exact ho.lt
        clear hown
        go_wp2_with (at_range; refine wpList_range_own _ rfl _ 41 rfl 9 24 law Try.underlying41 _ b nm _ rfl HOW.out ?_; intro w0 hrg0 hg0 hs0)
        go_frame
        go_loopw [3] (fun v wr => ∃ (left : Lit → Bool) (cnt : Nat) (ss : List (List UInt8)), wr.ranges Try.prog 9 (plainElem Try.prog 24) b w1.heap.size nm D left cnt ∧ ss.length + cnt ≤ Maps.size D ∧ KeysRow w v ss wr ∧ Collected D left ss) (fun _ wr => wr.rangeLeft b w1.heap.size)
        case atStart => exact ⟨_, _, [], hrg0, by simp, ⟨HR.out.row.kept hg0 (own_ne HR.out.row), HR.out.nn, HR.out.kept.grown hg0 (fun k e => by cases e)⟩, Collected.start D⟩
        case round =>
          obtain ⟨left, cnt, ss, hrg, hcs, hrow, hC⟩ := hrel
          have hrk := HR.out.kept.size
          go_wp2_with (first
            | (at_next; refine wpList_next_ranges _ rfl _ rfl 9 law (plainElem Try.prog 24) encStr (Value.int .u64) (fun key kl hk => by obtain ⟨x, hx, _⟩ := Maps.keyOf_str Try.underlying9 hk; exact ⟨x, hx⟩) (fun v y hv => by obtain ⟨c, rfl, _⟩ := plainElem_int_inv Try.underlying24 hv; exact ⟨c, rfl⟩) b w1.heap.size nm _ _ _ rfl hrg ?_ ?_)
            | go_in)
          · intro hc0 hl0
            go_wp2_with fail
            go_meet
            exact ⟨ss, hrow, hC.1, fun x => by rw [hC.2 x, hl0]; simp, by omega⟩
          · intro x c kl yd yp w2 cnt2 hkey hlk hv hat hrg2 hlt hg2 hs2 hen
            obtain ⟨x', ex, rfl, hxl⟩ := Maps.keyOf_str Try.underlying9 hkey
            obtain rfl : x = x' := encStr_inj ex
            have hrow2 := hrow.row.kept hg2 (Or.inr (row_ne_iter hrow.row hrg).symm)
            have hk2 : Kept none' w w2 := hrow.kept.grown hg2 (fun k e h => by cases e; omega)
            have hsz2 := hk2.size
            clear hs2
            go_wp2_with (first
              | (at_builtin; refine wpList_append_own _ rfl _ _ 30 rfl w.heap.size 9 i0 (.string ⟨#[]⟩) 1 16 Try.underlying30 hi hz0 hz1 hz2 rfl (by decide) _ _ _ rfl (hrow2.alloc _) ⟨w2.heap.size, 0, none⟩ 1 1 [encStr x] rfl rfl (cell_one_new _ _ _) (by simp [Value.oneCell', encStr]) (by unfold maxLen at *; omega) (by omega) (by simp; omega) ?_; intro v' w3 hown' hg3 hnil3; go_frame)
              | go_in)
            have hrg3 := (hrg2.alloc _).kept hg3 (row_ne_low hrow2 hbl) (row_ne_iter hrow2 hrg2)
            go_roundw
            case rel =>
              refine ⟨_, cnt2, ss ++ [x], hrg3, by simp; omega, ⟨by simpa using hown', fun hv' => by have := (hnil3.1 hv').2; omega, ?_⟩, hC.step hlk hat⟩
              exact (hk2.alloc _).grown hg3 (fun k e h => by have := (hrow2.lt k e).1; omega)
            case measure => rw [hrg3.left_eq, hrg.left_eq]; exact hlt
    case rest =>
      obtain ⟨ss, hrow0, hnd, hmem, hlen⟩ := hcut
      have HR2 : Hid (KeysRow w u3 ss wc) := hrow0
      have HND : Hid ss.Nodup := hnd
      have HME : Hid (∀ x, x ∈ ss ↔ Maps.has D (.string x) = true) := hmem
      clear hrow0 hnd hmem d0 d1 HD1 HR
      have d0 : wc.cell? ⟨pb, 0, none⟩ = some (.map mb) := HR2.out.kept.cell c0 (fun h => h)
      have d1 : wc.cell? ⟨pb, 1, none⟩ = some (.map mc) := HR2.out.kept.cell c1 (fun h => h)
      have HE1 : Hid (MapAt wc rawElem mc nm E) := HE.out.later HR2.out.kept
      obtain ⟨w2, hw2⟩ : ∃ w2, w2 = wc := ⟨_, rfl⟩
      subst hw2
      go_step
      go_step
      go_cut [3, 5, 6, 7] from 33 to 56 (fun t _ _ _ wx => BothKeys w D E nm t wx)
      case first =>
        rcases HE1.out with ⟨rfl, rfl⟩ | ⟨b, rfl, hown⟩
        · have hrg := run_range_nilMap (P := Try.prog) w2 42 9 32 Try.underlying42
          have hnx : ∀ ty, (Instr.next (.pointer (some ⟨w2.heap.size, 0, none⟩)) false ty).run Try.prog (w2.alloc (.mapIter none 0 #[] 0)) = _ := fun ty => run_next_nilMap _ ty 0 0 #[]
          go_wp2_with fail
          go_loopw [3] (fun v wr => v = u3 ∧ wr = w2.alloc (.mapIter none 0 #[] 0)) (fun _ _ => 0)
          case atStart => exact ⟨rfl, rfl⟩
          case round =>
            obtain ⟨rfl, hwr⟩ := hrel
            rw [hwr]
            clear hwr
            go_wp2_with fail
            go_meet
            exact ⟨ss, ⟨HR2.out.row.alloc _, HR2.out.nn, HR2.out.kept.alloc _⟩, HND.out, fun x => by rw [HME.out x]; simp [Maps.has_eq], by omega⟩
        · have HOW : Hid (w2.ownsMap Try.prog 9 rawElem b nm E) := hown
          have hbl : b < w.heap.size := by
            rcases HE.out with ⟨h, _⟩ | ⟨b', e, ho⟩
            · cases h
            · cases e; exact ho.lt
          clear hown
          go_wp2_with (at_range; refine wpList_range_own _ rfl _ 42 rfl 9 32 law Try.underlying42 _ b nm _ rfl HOW.out ?_; intro w0 hrg0 hg0 hs0)
          go_frame
          go_loopw [3] (fun v wr => ∃ (left : Lit → Bool) (cnt : Nat) (uu : List (List UInt8)), wr.ranges Try.prog 9 rawElem b w2.heap.size nm E left cnt ∧ uu.length + cnt ≤ Maps.size E ∧ KeysRow w v (ss ++ uu.filter (fun k => !Maps.has D (.string k))) wr ∧ Collected E left uu) (fun _ wr => wr.rangeLeft b w2.heap.size)
          case atStart => exact ⟨_, _, [], hrg0, by simp, ⟨by simpa using HR2.out.row.kept hg0 (own_ne HR2.out.row), HR2.out.nn, HR2.out.kept.grown hg0 (fun k e => by cases e)⟩, Collected.start E⟩
          case round =>
            obtain ⟨left, cnt, uu, hrg, hcs, hrow, hC⟩ := hrel
            have hrk := HR2.out.kept.size
            have hfl := List.length_filter_le (fun k => !Maps.has D (.string k)) uu
            go_wp2_with (first
              | (at_next; refine wpList_next_ranges _ rfl _ rfl 9 law rawElem encStr (fun c : Option Addr × Nat × Nat => Value.slice c.1 c.2.1 c.2.2) (fun key kl hk => by obtain ⟨x, hx, _⟩ := Maps.keyOf_str Try.underlying9 hk; exact ⟨x, hx⟩) (fun v y hv => rawElem_shape hv) b w2.heap.size nm _ _ _ rfl hrg ?_ ?_)
              | go_in)
            · intro hc0 hl0
              go_wp2_with fail
              go_meet
              exact both_end hrow HND.out HME.out hC hl0 (by omega)
            · intro x ca cn cc kl yd yp w3 cnt2 hkey hlk hv hat hrg2 hlt hg2 hs2 hen
              obtain ⟨x', ex, rfl, hxl⟩ := Maps.keyOf_str Try.underlying9 hkey
              obtain rfl : x = x' := encStr_inj ex
              have hrow2 := hrow.row.kept hg2 (Or.inr (row_ne_iter hrow.row hrg).symm)
              have hk2 : Kept none' w w3 := hrow.kept.grown hg2 (fun k e h => by cases e; omega)
              have hsz2 := hk2.size
              have e0 : w3.cell? ⟨pb, 0, none⟩ = some (.map mb) := hk2.cell c0 (fun h => h)
              obtain ⟨lv, hlook⟩ := (HD.out.later hk2).lookOk hxl
              clear hs2
              by_cases hD : Maps.has D (.string x) = true
              · rw [hD] at hlook
                go_wp2_with fail
                go_roundw
                case rel =>
                  refine ⟨_, cnt2, uu ++ [x], hrg2, by simp; omega, ⟨?_, hrow.nn, hk2⟩, hC.step hlk hat⟩
                  simpa [hD] using hrow2
                case measure => rw [hrg2.left_eq, hrg.left_eq]; exact hlt
              · have hD' : Maps.has D (.string x) = false := by simpa using hD
                rw [hD'] at hlook
                go_wp2_with (first
                  | (at_builtin; refine wpList_append_own _ rfl _ _ 30 rfl w.heap.size 9 i0 (.string ⟨#[]⟩) 1 16 Try.underlying30 hi hz0 hz1 hz2 rfl (by decide) _ _ _ rfl (hrow2.alloc _) ⟨w3.heap.size, 0, none⟩ 1 1 [encStr x] rfl rfl (cell_one_new _ _ _) (by simp [Value.oneCell', encStr]) (by unfold maxLen at *; simp; omega) (by simp; omega) (by simp; omega) ?_; intro v' w4 hown' hg3 hnil3; go_frame)
                  | go_in)
                have hrg3 := (hrg2.alloc _).kept hg3 (row_ne_low hrow2 hbl) (row_ne_iter hrow2 hrg2)
                go_roundw
                case rel =>
                  refine ⟨_, cnt2, uu ++ [x], hrg3, by simp; omega, ⟨?_, fun hv' => by have := (hnil3.1 hv').2; omega, ?_⟩, hC.step hlk hat⟩
                  · simpa [hD', Nat.add_assoc] using hown'
                  · exact (hk2.alloc _).grown hg3 (fun k e h => by have := (hrow2.lt k e).1; omega)
                case measure => rw [hrg3.left_eq, hrg.left_eq]; exact hlt
      case rest =>
        obtain ⟨tt, hrow, hnd, hmm, hll⟩ := hcut
        obtain ⟨g, cap, cur, hv, hbase, hb, h1, h2, h3, h4⟩ := keys_of_row hrow
        have hH : Holds encStr wc g 0 tt.toArray := holds_of_block hb h4
        have hgl : g < wc.heap.size := (Array.getElem?_eq_some_iff.1 hb).1
        have HEnd : Hid (∀ n os, ActorsPost K nm w (.returned (.slice (some ⟨g, 0, none⟩) tt.length cap)) (grow (putRow encStr (Sort.ahead wc n) g 0 (tt.mergeSort fun x y => decide (x ≤ y)).toArray) os)) := fun n os => actorsEnd HC.out hrow.kept hnd hmm hll hbase hb h1 h2 h3
        have hcall := sortStrings g 0 cap tt wc hH hgl (by omega)
        clear hrow hnd hmm hbase hb h1 h2 h3 h4 hH hgl
        subst hv
        go_wp2_with (go_at_call 23; refine hcall.mono ?_; rintro e w' ⟨rfl, nn, os, rfl⟩)
        go_ret
        exact HEnd.out _ _
end Go.Proofs.Qxb6630298a
