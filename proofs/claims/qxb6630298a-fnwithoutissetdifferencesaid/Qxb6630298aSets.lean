/-
  THE WALKS of setBase and setCloud.
-/
import Derived.Test.Qxb6630298aMem
namespace Go.Proofs.Qxb6630298a
open Go.RowKit Go.Maps

/-- A map in a field: nil, or a block that reads as D. -/
def MapAt (w : World) (R : Value → Option (DataW Unit × List MemPlace)) (m : Option Nat) (nm : Nat) (D : DataW Unit) : Prop :=
  (m = none ∧ D = .map []) ∨ ∃ b, m = some b ∧ w.ownsMap Try.prog 9 R b nm D

theorem cell_struct {w : World} {pb : Nat} {a b : Value} {T : TypeId} (h : w.heap[pb]? = some (.cells #[a, b] T (0, 0))) : w.cell? ⟨pb, 0, none⟩ = some a ∧ w.cell? ⟨pb, 1, none⟩ = some b ∧ (∀ j, w.frozen? ⟨pb, j, none⟩ = false) :=
  ⟨by rw [cell_of_row w pb 0 _ T (0, 0) h]; rfl, by rw [cell_of_row w pb 1 _ T (0, 0) h]; rfl, fun j => frozen_of_row w pb j _ T h⟩

theorem struct_set0 {w : World} {pb : Nat} {a b : Value} {T : TypeId} (h : w.heap[pb]? = some (.cells #[a, b] T (0, 0))) (u : Value) : (w.setCell ⟨pb, 0, none⟩ u).heap[pb]? = some (.cells #[u, b] T (0, 0)) := by
  rw [heap_setCell_same w pb 0 _ T u h]; rfl
theorem struct_set1 {w : World} {pb : Nat} {a b : Value} {T : TypeId} (h : w.heap[pb]? = some (.cells #[a, b] T (0, 0))) (u : Value) : (w.setCell ⟨pb, 1, none⟩ u).heap[pb]? = some (.cells #[a, u] T (0, 0)) := by
  rw [heap_setCell_same w pb 1 _ T u h]; rfl
/-- A block that is no map keeps its place while a map is written. -/
theorem struct_kept {w w' : World} {pb b : Nat} {a c : Value} {T : TypeId} {R : Value → Option (DataW Unit × List MemPlace)} {n : Nat} {D : DataW Unit} (h : w.heap[pb]? = some (.cells #[a, c] T (0, 0))) (ho : w.ownsMap Try.prog 9 R b n D) (hg : w.grownBy w' (some b)) : w'.heap[pb]? = some (.cells #[a, c] T (0, 0)) := by
  refine (hg.block pb (Array.getElem?_eq_some_iff.1 h).1 ?_).trans h
  intro e
  obtain ⟨es, clk, hb, _⟩ := ho
  simp only [Option.some.injEq] at e
  rw [← e, h] at hb
  simp at hb

set_option maxHeartbeats 800000 in
theorem setBase_any (pb : Nat) (s : ByteArray) (v : Int) (mb mc : Option Nat) (nm : Nat) (D : DataW Unit) (w : World) (hs : s.size ≤ maxLen) (hv0 : 0 ≤ v) (hv1 : v ≤ 18446744073709551615) (hn : nm < maxLen)
    (hst : w.heap[pb]? = some (.cells #[.map mb, .map mc] 44 (0, 0))) (hm : MapAt w (plainElem Try.prog 24) mb nm D) :
    Calls Try.prog 28 #[.pointer (some ⟨pb, 0, none⟩), .string s, .int .u64 v] w fun e w' => e = .returned (.tuple #[]) ∧
      ∃ b', w'.heap[pb]? = some (.cells #[.map (some b'), .map mc] 44 (0, 0)) ∧ w'.ownsMap Try.prog 9 (plainElem Try.prog 24) b' (nm + 1) (D.put (.string (key s)) (.lit (.int .u64 v))) ∧ (mb = some b' ∨ w.heap.size ≤ b') ∧ Kept (fun k => k = pb ∨ mb = some k) w w' := by
  have hwf : (Lit.int .u64 v).wf = true := by simp [Lit.wf, IntKind.min, IntKind.max, IntKind.signed, IntKind.bits]; omega
  obtain ⟨c0, c1, fz⟩ := cell_struct hst
  have f0 := fz 0
  have f1 := fz 1
  have hpb : pb < w.heap.size := (Array.getElem?_eq_some_iff.1 hst).1
  clear fz
  have hmm := @run_makeMap Try.prog
  have hen := fun (w : World) (r : Option Nat) => run_eql_map_nil (P := Try.prog) w 41 9 24 r Try.underlying41
  rcases hm with ⟨rfl, rfl⟩ | ⟨b, rfl, ho⟩
  · have hst1 := struct_set0 hst (.map (some w.heap.size))
    have ho := World.ownsMap_made (H := Unit) (w.setCell ⟨pb, 0, none⟩ (.map (some w.heap.size))) Try.prog 9 (plainElem Try.prog 24)
    rw [show (w.setCell ⟨pb, 0, none⟩ (.map (some w.heap.size))).heap.size = w.heap.size by simp [World.setCell]] at ho
    have hst2 : (((w.setCell ⟨pb, 0, none⟩ (.map (some w.heap.size))).alloc (.map #[] 0))).heap[pb]? = _ := (Below.heap_alloc _ _ pb (by simpa [World.setCell] using hpb)).trans hst1
    have hk : Kept (fun k => k = pb ∨ (none : Option Nat) = some k) w ((w.setCell ⟨pb, 0, none⟩ (.map (some w.heap.size))).alloc (.map #[] 0)) := ((Kept.refl _ w).setCell (fun _ => .inl rfl) _).alloc _
    have HST := (show Hid _ from hst2)
    clear hst hst1 hst2
    go_enter Try.func28, Try.ntmps28
    go_wp2_with (at_mapUpdate; refine wpList_mapUpdate_own _ rfl _ _ _ 41 rfl 9 24 law Try.underlying41 _ w.heap.size nm _ rfl (ho.mono (Nat.zero_le _)) hn _ _ _ rfl rfl (keyOf_s hs) _ [] (plainElem_int Try.underlying24 hwf) ?_)
    intro w1 ho1 hg1
    have hst3 := struct_kept HST.out ho hg1
    have hk1 := hk.grown hg1 (fun k e h => by simp at e; omega)
    go_wp2
    go_end0
    exact ⟨rfl, w.heap.size, hst3, ho1, .inr (Nat.le_refl _), hk1⟩
  · have HST := (show Hid _ from hst)
    clear hst
    go_enter Try.func28, Try.ntmps28
    go_wp2_with (at_mapUpdate; refine wpList_mapUpdate_own _ rfl _ _ _ 41 rfl 9 24 law Try.underlying41 _ b nm _ rfl ho hn _ _ _ rfl rfl (keyOf_s hs) _ [] (plainElem_int Try.underlying24 hwf) ?_)
    intro w1 ho1 hg1
    have hst3 := struct_kept HST.out ho hg1
    have hk1 : Kept (fun k => k = pb ∨ (some b : Option Nat) = some k) w w1 := (Kept.refl _ w).grown hg1 (fun k e _ => .inr e)
    go_wp2
    go_end0
    exact ⟨rfl, b, hst3, ho1, .inl rfl, hk1⟩

set_option maxHeartbeats 800000 in
theorem setCloud_put (pb : Nat) (s : ByteArray) (g off n c : Nat) (mb mc : Option Nat) (nm : Nat) (D : DataW Unit) (w : World) (hs : s.size ≤ maxLen) (h0 : 0 < n) (hn : nm < maxLen)
    (hst : w.heap[pb]? = some (.cells #[.map mb, .map mc] 44 (0, 0))) (hm : MapAt w rawElem mc nm D) :
    Calls Try.prog 29 #[.pointer (some ⟨pb, 0, none⟩), .string s, .slice (some ⟨g, off, none⟩) n c] w fun e w' => e = .returned (.tuple #[]) ∧
      ∃ b', w'.heap[pb]? = some (.cells #[.map mb, .map (some b')] 44 (0, 0)) ∧ w'.ownsMap Try.prog 9 rawElem b' (nm + 1) (D.put (.string (key s)) (rawData g off n c)) ∧ (mc = some b' ∨ w.heap.size ≤ b') ∧ Kept (fun k => k = pb ∨ mc = some k) w w' := by
  have en : ((n : Int) == 0) = false := by simp; omega
  obtain ⟨c0, c1, fz⟩ := cell_struct hst
  have f0 := fz 0
  have f1 := fz 1
  have hpb : pb < w.heap.size := (Array.getElem?_eq_some_iff.1 hst).1
  clear fz
  have hmm := @run_makeMap Try.prog
  have hen := fun (w : World) (r : Option Nat) => run_eql_map_nil (P := Try.prog) w 42 9 32 r Try.underlying42
  rcases hm with ⟨rfl, rfl⟩ | ⟨b, rfl, ho⟩
  · have hst1 := struct_set1 hst (.map (some w.heap.size))
    have ho := World.ownsMap_made (H := Unit) (w.setCell ⟨pb, 1, none⟩ (.map (some w.heap.size))) Try.prog 9 rawElem
    rw [show (w.setCell ⟨pb, 1, none⟩ (.map (some w.heap.size))).heap.size = w.heap.size by simp [World.setCell]] at ho
    have hst2 : (((w.setCell ⟨pb, 1, none⟩ (.map (some w.heap.size))).alloc (.map #[] 0))).heap[pb]? = _ := (Below.heap_alloc _ _ pb (by simpa [World.setCell] using hpb)).trans hst1
    have hk : Kept (fun k => k = pb ∨ (none : Option Nat) = some k) w ((w.setCell ⟨pb, 1, none⟩ (.map (some w.heap.size))).alloc (.map #[] 0)) := ((Kept.refl _ w).setCell (fun _ => .inl rfl) _).alloc _
    have HST := (show Hid _ from hst2)
    clear hst hst1 hst2
    go_enter Try.func29, Try.ntmps29
    go_wp2_with (at_mapUpdate; refine wpList_mapUpdate_own _ rfl _ _ _ 42 rfl 9 32 law Try.underlying42 _ w.heap.size nm _ rfl (ho.mono (Nat.zero_le _)) hn _ _ _ rfl rfl (keyOf_s hs) _ [] (rawElem_mk g off n c) ?_)
    intro w1 ho1 hg1
    have hst3 := struct_kept HST.out ho hg1
    have hk1 := hk.grown hg1 (fun k e h => by simp at e; omega)
    go_wp2
    go_end0
    exact ⟨rfl, w.heap.size, hst3, ho1, .inr (Nat.le_refl _), hk1⟩
  · have HST := (show Hid _ from hst)
    clear hst
    go_enter Try.func29, Try.ntmps29
    go_wp2_with (at_mapUpdate; refine wpList_mapUpdate_own _ rfl _ _ _ 42 rfl 9 32 law Try.underlying42 _ b nm _ rfl ho hn _ _ _ rfl rfl (keyOf_s hs) _ [] (rawElem_mk g off n c) ?_)
    intro w1 ho1 hg1
    have hst3 := struct_kept HST.out ho hg1
    have hk1 : Kept (fun k => k = pb ∨ (some b : Option Nat) = some k) w w1 := (Kept.refl _ w).grown hg1 (fun k e _ => .inr e)
    go_wp2
    go_end0
    exact ⟨rfl, b, hst3, ho1, .inl rfl, hk1⟩

set_option maxHeartbeats 800000 in
theorem setCloud_del (pb : Nat) (s : ByteArray) (a : Option Addr) (c : Nat) (mb mc : Option Nat) (nm : Nat) (D : DataW Unit) (w : World) (hs : s.size ≤ maxLen)
    (hst : w.heap[pb]? = some (.cells #[.map mb, .map mc] 44 (0, 0))) (hm : MapAt w rawElem mc nm D) :
    Calls Try.prog 29 #[.pointer (some ⟨pb, 0, none⟩), .string s, .slice a 0 c] w fun e w' => e = .returned (.tuple #[]) ∧
      w'.heap[pb]? = some (.cells #[.map mb, .map mc] 44 (0, 0)) ∧ MapAt w' rawElem mc nm (D.del (.string (key s))) ∧ Kept (fun k => mc = some k) w w' := by
  obtain ⟨c0, c1, fz⟩ := cell_struct hst
  clear fz
  rcases hm with ⟨rfl, rfl⟩ | ⟨b, rfl, ho⟩
  · have HST := (show Hid _ from hst)
    have hdn := fun (w : World) (ty : TypeId) => Maps.drop_nil (w := w) law Try.underlying42 (keyOf_s hs) ty
    clear hst
    go_enter Try.func29, Try.ntmps29
    go_wp2
    refine bodyPost_ret (results_none rfl _ _ _) rfl ?_
    exact ⟨rfl, HST.out, .inl ⟨rfl, rfl⟩, Kept.refl _ _⟩
  · have HST := (show Hid _ from hst)
    clear hst
    go_enter Try.func29, Try.ntmps29
    go_wp2_with (at_delete; refine wpList_delete_own _ rfl _ _ 42 9 rfl 32 law Try.underlying42 _ b nm _ rfl ho _ _ rfl (keyOf_s hs) ?_)
    intro w1 ho1 ht1
    have hst3 := struct_kept HST.out ho ht1.grown
    have hk1 : Kept (fun k => (some b : Option Nat) = some k) w w1 := (Kept.refl _ w).grown ht1.grown (fun k e _ => e)
    go_wp2
    refine bodyPost_ret (results_none rfl _ _ _) rfl ?_
    exact ⟨rfl, hst3, .inr ⟨b, rfl, ho1⟩, hk1⟩

theorem setCloud_zero (pb : Nat) (s : ByteArray) (a : Option Addr) (n c : Nat) (mb mc : Option Nat) (nm : Nat) (D : DataW Unit) (w : World) (h : n = 0) (hs : s.size ≤ maxLen)
    (hst : w.heap[pb]? = some (.cells #[.map mb, .map mc] 44 (0, 0))) (hm : MapAt w rawElem mc nm D) :
    Calls Try.prog 29 #[.pointer (some ⟨pb, 0, none⟩), .string s, .slice a n c] w fun e w' => e = .returned (.tuple #[]) ∧
      w'.heap[pb]? = some (.cells #[.map mb, .map mc] 44 (0, 0)) ∧ MapAt w' rawElem mc nm (D.del (.string (key s))) ∧ Kept (fun k => mc = some k) w w' := by
  subst h; exact setCloud_del pb s a c mb mc nm D w hs hst hm
end Go.Proofs.Qxb6630298a
