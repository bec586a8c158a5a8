/-
  ROWS OF SPANS WRITTEN IN PLACE; the arms of addSpan's switch.
-/
import Derived.Test.Qxb6630298aMid
import Derived.Laws.CopyOwn
import Derived.Deep.RegionLaw
import Derived.Laws.IdiomCopy
namespace Go.Proofs.Qxb6630298a
open Go.RowKit Go.Maps

/-- The cells of a list of spans. -/
def flat : List (Int × Int) → List Value
  | [] => []
  | p :: r => .int .u64 p.1 :: .int .u64 p.2 :: flat r
theorem flat_length : ∀ L : List (Int × Int), (flat L).length = L.length * 2
  | [] => rfl
  | _ :: r => by simp only [flat, List.length_cons, flat_length r]; omega
theorem flat_at : ∀ (L : List (Int × Int)) (k : Nat), k < L.length → (flat L)[k * 2]? = some (.int .u64 (L.getD k (0, 0)).1) ∧ (flat L)[k * 2 + 1]? = some (.int .u64 (L.getD k (0, 0)).2)
  | [], _, h => by simp at h
  | p :: r, 0, _ => ⟨rfl, rfl⟩
  | p :: r, k + 1, h => by
    have := flat_at r k (by simpa using h)
    rw [show (k + 1) * 2 = k * 2 + 1 + 1 by omega]
    simpa [flat] using this
theorem flat_one : ∀ (L : List (Int × Int)), ∀ u ∈ flat L, u.oneCell' = true
  | [], _, h => by simp [flat] at h
  | p :: r, u, h => by
    simp only [flat, List.mem_cons] at h
    rcases h with rfl | rfl | h
    · rfl
    · rfl
    · exact flat_one r u h

theorem row_of {w : World} {g off cap : Nat} {L : List (Int × Int)} {cur : Array Value} (hg : w.heap[g]? = some (.cells cur 38 (0, 0))) (hsz : off + cap * 2 ≤ cur.size) (hl : L.length ≤ cap) (hc : cap ≤ maxLen)
    (h : ∀ i, i < L.length → w.cell? ⟨g, off + i * 2, none⟩ = some (.int .u64 (L.getD i (0, 0)).1) ∧ w.cell? ⟨g, off + i * 2 + 1, none⟩ = some (.int .u64 (L.getD i (0, 0)).2)) : Row w g off cap L :=
  ⟨cur, hg, hsz, hl, hc, fun i hi => by
    have := h i hi
    rw [cell_of_row w g _ cur 38 (0, 0) hg, cell_of_row w g _ cur 38 (0, 0) hg] at this
    exact this⟩
theorem Row.there {w : World} {g off cap : Nat} {L : List (Int × Int)} (h : Row w g off cap L) (k : Nat) (hk : k < cap * 2) : (w.cell? ⟨g, off + k, none⟩).isSome = true ∧ w.frozen? ⟨g, off + k, none⟩ = false := by
  obtain ⟨cur, hg, hsz, _⟩ := h
  refine ⟨?_, frozen_of_row w g _ _ 38 hg⟩
  rw [cell_of_row w g _ cur 38 (0, 0) hg]
  have : off + k < cur.size := by omega
  simp [this]
theorem flat_cells {w : World} {g off cap : Nat} {L : List (Int × Int)} (h : Row w g off cap L) : ∀ j u, (flat L)[j]? = some u → w.cell? ⟨g, off + j, none⟩ = some u := by
  intro j u hj
  have hl : j < (flat L).length := (List.getElem?_eq_some_iff.1 hj).1
  rw [flat_length] at hl
  have hk : j / 2 < L.length := by omega
  have h1 := flat_at L (j / 2) hk
  have h2 := h.cells (j / 2) hk
  rcases Nat.mod_two_eq_zero_or_one j with e | e
  · rw [show j / 2 * 2 = j by omega] at h1 h2
    rw [h1.1] at hj
    rw [h2.1, hj]
  · rw [show j / 2 * 2 + 1 = j by omega] at h1
    rw [show off + j / 2 * 2 + 1 = off + j by omega] at h2
    rw [h1.2] at hj
    rw [h2.2, hj]
theorem Row.drop {w : World} {g off cap : Nat} {L : List (Int × Int)} (h : Row w g off cap L) (j : Nat) (hj : j ≤ L.length) : Row w g (off + j * 2) (cap - j) (L.drop j) := by
  have hcs := h.cells
  obtain ⟨cur, hg, hsz, hl, hc, _⟩ := h
  refine row_of hg (by omega) (by simp; omega) (by omega) (fun i hi => ?_)
  have := hcs (j + i) (by simp at hi; omega)
  rw [show off + (j + i) * 2 = off + j * 2 + i * 2 by omega] at this
  simpa [List.getD] using this
theorem Row.take {w : World} {g off cap : Nat} {L : List (Int × Int)} (h : Row w g off cap L) (j : Nat) : Row w g off cap (L.take j) := by
  have hcs := h.cells
  obtain ⟨cur, hg, hsz, hl, hc, _⟩ := h
  refine row_of hg hsz (by simp; omega) hc (fun i hi => ?_)
  have hij : i < j := by simp at hi; omega
  have := hcs i (by simp at hi; omega)
  simpa [List.getD, List.getElem?_take, hij] using this

theorem setCells_block {T : TypeId} (g : Nat) : ∀ (vs : List Value) (o : Nat) (w : World) (cur : Array Value), w.heap[g]? = some (.cells cur T (0, 0)) → ∃ cur', (w.setCells g o vs).heap[g]? = some (.cells cur' T (0, 0)) ∧ cur'.size = cur.size
  | [], _, _, cur, h => ⟨cur, h, rfl⟩
  | v :: r, o, w, cur, h => by
    have h1 := heap_setCell_same w g o cur T v h
    obtain ⟨c, hc, hs⟩ := setCells_block g r (o + 1) _ _ h1
    exact ⟨c, hc, by simpa using hs⟩
theorem setCells_other (g : Nat) : ∀ (vs : List Value) (o : Nat) (w : World) (k : Nat), k ≠ g → (w.setCells g o vs).heap[k]? = w.heap[k]?
  | [], _, _, _, _ => rfl
  | v :: r, o, w, k, h => (setCells_other g r (o + 1) _ k h).trans (Below.heap_setCell w _ v k h)
theorem Kept.setCells {F : Nat → Prop} {a : World} {g : Nat} (hp : g < a.heap.size → F g) : ∀ (vs : List Value) (o : Nat) (w : World), Kept F a w → Kept F a (w.setCells g o vs)
  | [], _, _, h => h
  | v :: r, o, _, h => Kept.setCells hp r (o + 1) _ (h.setCell (p := ⟨g, o, none⟩) hp v)

/-- SPANS WRITTEN OVER A ROW from the k-th on. -/
theorem Row.write {w : World} {g off cap : Nat} {L : List (Int × Int)} (h : Row w g off cap L) (k : Nat) (M : List (Int × Int)) (hk : k ≤ L.length) (hcap : k + M.length ≤ cap) :
    Row (w.setCells g (off + k * 2) (flat M)) g off cap (L.take k ++ (M ++ L.drop (k + M.length))) := by
  have hcs := h.cells
  have hsm := h.there
  obtain ⟨cur, hg, hsz, hl, hc, _⟩ := h
  obtain ⟨cur', hg', hs'⟩ := setCells_block g (flat M) (off + k * 2) w cur hg
  have hin : ∀ q, q < M.length → (w.setCells g (off + k * 2) (flat M)).cell? ⟨g, off + (k + q) * 2, none⟩ = some (.int .u64 (M.getD q (0, 0)).1) ∧ (w.setCells g (off + k * 2) (flat M)).cell? ⟨g, off + (k + q) * 2 + 1, none⟩ = some (.int .u64 (M.getD q (0, 0)).2) := fun q hq => by
    have hall : ∀ j, j < (flat M).length → (w.cell? ⟨g, off + k * 2 + j, none⟩).isSome = true := fun j hj => by
      rw [flat_length] at hj
      rw [show off + k * 2 + j = off + (k * 2 + j) by omega]
      exact (hsm _ (by omega)).1
    have f := flat_at M q hq
    have l1 : q * 2 < (flat M).length := by rw [flat_length]; omega
    have l2 : q * 2 + 1 < (flat M).length := by rw [flat_length]; omega
    have a1 := World.cell?_setCells_in g (flat M) (off + k * 2) w hall (q * 2) l1
    have a2 := World.cell?_setCells_in g (flat M) (off + k * 2) w hall (q * 2 + 1) l2
    rw [List.getElem?_eq_getElem l1, List.getElem?_eq_getElem l2] at f
    refine ⟨?_, ?_⟩
    · rw [show off + (k + q) * 2 = off + k * 2 + q * 2 by omega, a1]; exact f.1
    · rw [show off + (k + q) * 2 + 1 = off + k * 2 + (q * 2 + 1) by omega, a2]; exact f.2
  have hout : ∀ q, q < L.length → (q < k ∨ k + M.length ≤ q) → (w.setCells g (off + k * 2) (flat M)).cell? ⟨g, off + q * 2, none⟩ = some (.int .u64 (L.getD q (0, 0)).1) ∧ (w.setCells g (off + k * 2) (flat M)).cell? ⟨g, off + q * 2 + 1, none⟩ = some (.int .u64 (L.getD q (0, 0)).2) := fun q hq hqk => by
    have := hcs q hq
    have fl := flat_length M
    rw [World.cell?_setCells_out g _ _ _ _ (fun _ _ => by show off + q * 2 < _ ∨ _ ≤ off + q * 2; omega), World.cell?_setCells_out g _ _ _ _ (fun _ _ => by show off + q * 2 + 1 < _ ∨ _ ≤ off + q * 2 + 1; omega)]
    exact this
  have hlen : (L.take k ++ (M ++ L.drop (k + M.length))).length ≤ cap := by simp; omega
  refine row_of hg' (by omega) hlen hc (fun q hq => ?_)
  have hq' : q < k + M.length ∨ (k + M.length ≤ q ∧ q < L.length) := by simp at hq; omega
  by_cases h1 : q < k
  · have e : (L.take k ++ (M ++ L.drop (k + M.length))).getD q (0, 0) = L.getD q (0, 0) := by
      simp only [List.getD, List.getElem?_append, List.length_take, show q < min k L.length by omega, if_true, List.getElem?_take, h1]
    rw [e]
    exact hout q (by omega) (.inl h1)
  · have e0 : (L.take k ++ (M ++ L.drop (k + M.length))).getD q (0, 0) = (M ++ L.drop (k + M.length)).getD (q - k) (0, 0) := by
      have hm : min k L.length = k := by omega
      simp only [List.getD]
      rw [List.getElem?_append_right (by rw [List.length_take]; omega), List.length_take, hm]
    by_cases h2 : q < k + M.length
    · have e : (M ++ L.drop (k + M.length)).getD (q - k) (0, 0) = M.getD (q - k) (0, 0) := by
        simp only [List.getD]
        rw [List.getElem?_append_left (by omega)]
      rw [e0, e]
      have := hin (q - k) (by omega)
      rwa [show k + (q - k) = q by omega] at this
    · have e : (M ++ L.drop (k + M.length)).getD (q - k) (0, 0) = L.getD q (0, 0) := by
        simp only [List.getD]
        rw [List.getElem?_append_right (by omega), List.getElem?_drop, show k + M.length + (q - k - M.length) = q by omega]
      rw [e0, e]
      exact hout q (by omega) (.inr (by omega))

/-! ### copy of spans -/
theorem run_copy_wide {P : Program} (w : World) (dT sT ty elem : TypeId) (size : Nat) (b o dLen dCap : Nat) (a : Addr) (sLen sCap : Nat) (cs : List Value)
    (hu : P.underlying dT = some (.slice elem)) (hs : (P.info? elem).map (·.size) = some size) (hn : cs.length = Nat.min sLen dLen * size)
    (hsrc : ∀ j v, cs[j]? = some v → w.cell? (a.add j) = some v) (hc : ∀ j, j < cs.length → (w.cell? ⟨b, o + j, none⟩).isSome = true) (hf : ∀ j, j < cs.length → w.frozen? ⟨b, o + j, none⟩ = false) (h1 : ∀ v ∈ cs, v.oneCell' = true) :
    (Builtin.copy_ #[dT, sT] ty #[.slice (some ⟨b, o, none⟩) dLen dCap, .slice (some a) sLen sCap]).run P w = .ok (goInt (Nat.min sLen dLen)) (w.setCells b o cs) := by
  have hl := run_loadCells_list (P := P) w a cs hsrc
  have hst := run_storeCells_cells (P := P) b o cs 0 w (by simpa using hc) (by simpa using hf) h1
  cases hq : P.info? elem with
  | none => simp [hq] at hs
  | some i =>
    have hi : i.size = size := by simpa [hq] using hs
    rw [hn] at hl
    simp [Builtin.copy_, run_underlying hu, Builtin.lenOf, Builtin.firstCells, sizeOf, typeInfo, hq, hi, hl, hst]
theorem step_copy_wide {P : Program} {ops : Array Oper} {o : Oper} {a : Act} {w : World} {K : Act → World → Prop} {Q : Exit → Act → World → Prop} {E : Prop} (hgd : o.guard = none) (d s : Operand) (dT sT : TypeId)
    (ho : o.op = .call { callee := .builtin .copy, args := #[d, s], argTypes := #[dT, sT] }) (elem : TypeId) (hu : P.underlying dT = some (.slice elem)) (size : Nat) (hsz : (P.info? elem).map (·.size) = some size)
    (b off dLen dCap : Nat) (ad : Addr) (sLen sCap : Nat) (hd : a.eval d = .slice (some ⟨b, off, none⟩) dLen dCap) (hs : a.eval s = .slice (some ad) sLen sCap) (cs : List Value) (hn : cs.length = Nat.min sLen dLen * size)
    (hsrc : ∀ j v, cs[j]? = some v → w.cell? (ad.add j) = some v) (hc : ∀ j, j < cs.length → (w.cell? ⟨b, off + j, none⟩).isSome = true ∧ w.frozen? ⟨b, off + j, none⟩ = false) (h1 : ∀ v ∈ cs, v.oneCell' = true)
    (h : K (a.put o.dst (goInt (Nat.min sLen dLen))) (w.setCells b off cs)) :
    if Region.wanted o (yielded ops a.tmps) = true then Oper.wp P o a w K Q else E := by
  have hw : Region.wanted o (yielded ops a.tmps) = true := by simp [Region.wanted, hgd]
  rw [if_pos hw]
  have hrun := run_copy_wide (P := P) w dT sT o.type elem size b off dLen dCap ad sLen sCap cs hu hsz hn hsrc (fun j hj => (hc j hj).1) (fun j hj => (hc j hj).2) h1
  unfold Oper.wp
  simp [execOp, ho, resolve, invoke, builtin, hd, hs, hrun, Result.andThen]
  exact h

/-! ### The arms -/
theorem midA {pb : Nat} {s : ByteArray} {F : Nat → Prop} {K : List UInt8 → List (Int × Int)} {nm : Nat} {mb mc : Option Nat} {D E : DataW Unit} {sl : List UInt8 → Loc} {w : World} {R' C : List (Int × Int)} {n cc j b' : Nat} {ao : Option Addr} {H : Int} {w2 : World} {V V0 : Value}
    (hc : IsClock w pb F K nm mb mc D E sl) (hC : C = cl (K (key s))) (hn : n = C.length) (hjn : j ≤ n) (hao : ao ≠ none → ao = some ⟨(sl (key s)).g, (sl (key s)).off, none⟩ ∧ cc = (sl (key s)).cap ∧ C ≠ []) (hao0 : C ≠ [] → ao ≠ none)
    (hbs : bs R' = H) (hH : 0 < H) (hcl : cl R' = C.drop j)
    (h2 : w2.heap[pb]? = some (.cells #[.map (some b'), .map mc] 44 (0, 0)) ∧ w2.ownsMap Try.prog 9 (plainElem Try.prog 24) b' (nm + 1) (D.put (.string (key s)) (.lit (.int .u64 H))) ∧ (mb = some b' ∨ w.heap.size ≤ b') ∧ Kept (fun k => k = pb ∨ mb = some k) w w2)
    (hv : w2.heap[w.heap.size + 1]? = some (.cells #[V0] 32 (0, 0))) (hm : MapAt w2 rawElem mc nm E)
    (hV : (n - j = 0 ∧ ∃ a c, V = .slice a (n - j) c) ∨ V = .slice (ao.map (fun x => x.add (j * 2))) (n - j) (cc - j)) (t : Value) :
    ∃ V' mb' D' g off c, t = t ∧ Mid pb s F K nm mb mc D E sl w R' V' mb' D' g off c (w2.setCell ⟨w.heap.size + 1, 0, none⟩ V) := by
  obtain ⟨hst, ho, hb, hk⟩ := h2
  have hpw : pb < w.heap.size := hc.bound _ hc.fp
  have hl2 : w.heap.size + 1 < w2.heap.size := (Array.getElem?_eq_some_iff.1 hv).1
  have hbw : b' ≠ w.heap.size + 1 := fun e => owns_ne_cells ho hv e
  have hk' : Kept (fun k => k = pb ∨ mb = some k) w (w2.setCell ⟨w.heap.size + 1, 0, none⟩ V) := hk.setCell (fun h => by simp at h; omega) _
  have hk2 : Kept (fun k => k = w.heap.size + 1) w2 (w2.setCell ⟨w.heap.size + 1, 0, none⟩ V) := (Kept.refl (fun k => k = w.heap.size + 1) w2).setCell (p := ⟨w.heap.size + 1, 0, none⟩) (fun _ => rfl) V
  have hlen : (cl R').length = n - j := by rw [hcl, List.length_drop, hn]
  refine ⟨V, some b', _, (sl (key s)).g, (sl (key s)).off + j * 2, (sl (key s)).cap - j, rfl, ⟨by rw [heap_setCell_same w2 _ 0 _ 32 V hv]; rfl, (Below.heap_setCell _ _ _ _ (by show pb ≠ w.heap.size + 1; omega)).trans hst, .inr ⟨b', rfl, hb, ownsMap_later ho hk2 hbw⟩, hm.imp id (fun ⟨b, e, h⟩ => ⟨b, e, ownsMap_later h hk2 (fun e => owns_ne_cells h hv e)⟩), .inr ⟨by rw [hbs], by omega⟩, ?_, hk'.mono (fun _ _ h => h.elim .inl (fun h => .inr (.inl h)))⟩⟩
  by_cases h0 : n - j = 0
  · left
    refine ⟨List.eq_nil_of_length_eq_zero (by omega), ?_⟩
    rcases hV with ⟨_, a, c, rfl⟩ | rfl
    · exact ⟨_, _, _, h0, rfl⟩
    · exact ⟨_, _, _, h0, rfl⟩
  · right
    have hCne : C ≠ [] := fun e => by rw [e] at hn; simp at hn; omega
    obtain ⟨e1, e2, _⟩ := hao (hao0 hCne)
    have hCne' : cl (K (key s)) ≠ [] := hC ▸ hCne
    refine ⟨fun e => by rw [e] at hlen; simp at hlen; omega, ?_, ?_, .inr ⟨hCne', rfl⟩⟩
    · rcases hV with ⟨h, _⟩ | rfl
      · omega
      · rw [e1, e2, hlen, Option.map_some, Addr.add_lit]
    · have hr := (hc.rows _ hCne').2.1
      obtain ⟨n1, n2, _⟩ := hc.row_ne _ hCne'
      rw [hcl, hC]
      exact (hr.later hk' (fun h => h.elim n1 n2)).drop j (by rw [← hC, ← hn]; exact hjn)

/-- The row that the cloud holds already. -/
abbrev Old (K : List UInt8 → List (Int × Int)) (sl : List UInt8 → Loc) (s : ByteArray) : Nat → Prop := fun k => cl (K (key s)) ≠ [] ∧ k = (sl (key s)).g

theorem mid_of_row {pb : Nat} {s : ByteArray} {F : Nat → Prop} {K : List UInt8 → List (Int × Int)} {nm : Nat} {mb mc : Option Nat} {D E : DataW Unit} {sl : List UInt8 → Loc} {w : World} {R' : List (Int × Int)} {b : Int} {g off c m : Nat} {wx : World} (hc : IsClock w pb F K nm mb mc D E sl)
    (hb : b = bs (K (key s))) (hbs : bs R' = b) (hne : cl R' ≠ []) (hm : m = (cl R').length) (hv : wx.heap[w.heap.size + 1]? = some (.cells #[.slice (some ⟨g, off, none⟩) m c] 32 (0, 0))) (hr : Row wx g off c (cl R')) (hg : w.heap.size ≤ g ∨ Old K sl s g) (hk : Kept (Old K sl s) w wx) (t : Value) :
    ∃ V mb' D' g off c, t = t ∧ Mid pb s F K nm mb mc D E sl w R' V mb' D' g off c wx := by
  have hpw : pb < w.heap.size := hc.bound _ hc.fp
  have ho : ∀ k, Old K sl s k → k ≠ pb ∧ mb ≠ some k ∧ mc ≠ some k := fun k ⟨h0, e⟩ => by
    obtain ⟨n1, n2, n3, _⟩ := hc.row_ne _ h0
    rw [e]; exact ⟨n1, n2, n3⟩
  subst hm
  refine ⟨_, mb, D, g, off, c, rfl, ⟨hv, (hk.block pb hpw (fun h => (ho _ h).1 rfl)).trans hc.struct, ?_, ?_, .inl ⟨rfl, hbs.trans hb⟩, .inr ⟨hne, rfl, hr, hg⟩, hk.mono (fun _ _ h => .inr (.inr h))⟩⟩
  · exact hc.base.imp id (fun ⟨b, e, _, h⟩ => ⟨b, e, .inl e, (ownsMap_later h hk (fun hh => (ho _ hh).2.1 e)).mono (Nat.le_succ _)⟩)
  · exact hc.cloud.imp id (fun ⟨b, e, _, h⟩ => ⟨b, e, ownsMap_later h hk (fun hh => (ho _ hh).2.2 e)⟩)
end Go.Proofs.Qxb6630298a
