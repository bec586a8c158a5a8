/-
  addSpan: its variables, its searches, its arms.
-/
import Derived.Test.Qxb6630298aSets
import Derived.Test.Qxb6630298aSearch
import Derived.Test.Qxb6630298aArms
import Derived.Deep.RegionLaw
import Derived.Deep.CutBlock
import Derived.Deep.DeepCutAuto
import Derived.Deep.RegionWith
import Derived.BigRegion
namespace Go.Proofs.Qxb6630298a
open Go.RowKit Go.Maps

/-- The slice in the cloud, by its parts. -/
theorem IsClock.slice {w : World} {pb : Nat} {F : Nat → Prop} {K : List UInt8 → List (Int × Int)} {nm : Nat} {mb mc : Option Nat} {D E : DataW Unit} {sl : List UInt8 → Loc} (h : IsClock w pb F K nm mb mc D E sl) (k : List UInt8) :
    ∃ ao c, slv K sl k = .slice ao (cl (K k)).length c ∧ (cl (K k)).length ≤ c ∧ c ≤ maxLen ∧ (ao = none → c = 0) ∧ (ao ≠ none → ao = some ⟨(sl k).g, (sl k).off, none⟩ ∧ c = (sl k).cap ∧ cl (K k) ≠ []) ∧ (cl (K k) ≠ [] → ao ≠ none) := by
  unfold slv
  by_cases he : (cl (K k)).isEmpty = true
  · rw [if_pos he]
    have h0 : cl (K k) = [] := by simpa using he
    exact ⟨none, 0, by rw [h0]; rfl, by rw [h0]; exact Nat.le_refl _, Nat.zero_le _, fun _ => rfl, fun h => absurd rfl h, fun h => absurd h0 h⟩
  · rw [if_neg he]
    have hne : cl (K k) ≠ [] := by simpa using he
    obtain ⟨_, ⟨cur, _, _, hl, hc, _⟩, _⟩ := h.rows k hne
    exact ⟨_, _, rfl, hl, hc, (fun h => by cases h), fun _ => ⟨rfl, rfl, hne⟩, fun _ h => by cases h⟩

theorem canon_at {lb : Int} : ∀ {L : List (Int × Int)}, canon lb L → ∀ i j, i ≤ j → j < L.length → (L.getD i (0, 0)).1 ≤ (L.getD j (0, 0)).1 ∧ (L.getD i (0, 0)).2 ≤ (L.getD j (0, 0)).2
  | [], _, _, _, _, h => by simp at h
  | p :: r, hc, 0, 0, _, _ => ⟨Int.le_refl _, Int.le_refl _⟩
  | p :: r, hc, 0, j + 1, _, h => by
    have hj : j < r.length := by simpa using h
    have hm : r.getD j (0, 0) ∈ r := by simp [List.getD, hj]
    have := canon_bd hc.2.2.2 _ hm
    have := hc.2.1
    simp only [List.getD_cons_zero, List.getD_cons_succ]
    omega
  | p :: r, hc, i + 1, j + 1, hij, h => by
    simp only [List.getD_cons_succ]
    exact canon_at hc.2.2.2 i j (by omega) (by simpa using h)

/-- The three variables of addSpan in their blocks. -/
structure Vars (w : World) (l h : Int) (V : Value) (i : Nat) (wc : World) : Prop where
  s : wc.heap[w.heap.size]? = some (.cells #[.int .u64 l, .int .u64 h] 38 (0, 0))
  v : wc.heap[w.heap.size + 1]? = some (.cells #[V] 32 (0, 0))
  i : wc.heap[w.heap.size + 1 + 1]? = some (.cells #[.int .i64 i] 3 (0, 0))
  kept : Kept none' w wc

theorem Vars.setLo {w wc : World} {l h : Int} {V : Value} {i : Nat} (a : Vars w l h V i wc) (l' : Int) : Vars w l' h V i (wc.setCell ⟨w.heap.size, 0, none⟩ (.int .u64 l')) :=
  ⟨struct_set0 a.s _, (Below.heap_setCell _ _ _ _ (by show w.heap.size + 1 ≠ w.heap.size; omega)).trans a.v, (Below.heap_setCell _ _ _ _ (by show w.heap.size + 1 + 1 ≠ w.heap.size; omega)).trans a.i, a.kept.setCell (fun h => by simp at h) _⟩
theorem Vars.setHi {w wc : World} {l h : Int} {V : Value} {i : Nat} (a : Vars w l h V i wc) (h' : Int) : Vars w l h' V i (wc.setCell ⟨w.heap.size, 1, none⟩ (.int .u64 h')) :=
  ⟨struct_set1 a.s _, (Below.heap_setCell _ _ _ _ (by show w.heap.size + 1 ≠ w.heap.size; omega)).trans a.v, (Below.heap_setCell _ _ _ _ (by show w.heap.size + 1 + 1 ≠ w.heap.size; omega)).trans a.i, a.kept.setCell (fun h => by simp at h) _⟩
theorem Vars.setV {w wc : World} {l h : Int} {V : Value} {i : Nat} (a : Vars w l h V i wc) (V' : Value) : Vars w l h V' i (wc.setCell ⟨w.heap.size + 1, 0, none⟩ V') :=
  ⟨(Below.heap_setCell _ _ _ _ (by show w.heap.size ≠ w.heap.size + 1; omega)).trans a.s, by rw [heap_setCell_same wc _ 0 _ 32 V' a.v]; rfl, (Below.heap_setCell _ _ _ _ (by show w.heap.size + 1 + 1 ≠ w.heap.size + 1; omega)).trans a.i, a.kept.setCell (fun h => by simp at h; omega) _⟩
theorem Vars.drew {w wc : World} {l h : Int} {V : Value} {i : Nat} (a : Vars w l h V i wc) : Vars w l h V i wc.drew := ⟨a.s, a.v, a.i, a.kept.drew⟩
theorem Vars.drewN {w wc : World} {l h : Int} {V : Value} {i : Nat} (a : Vars w l h V i wc) (n : Nat) : Vars w l h V i (wc.drewN n) := ⟨a.s, a.v, a.i, a.kept.drewN n⟩

theorem quiet_of {P : Program} {f : FuncId} {args : Array Value} {w : World} {n : Nat} {v : Value} (h : Calls P f args (w.drewN n) fun e w' => e = .returned v ∧ ∃ q, w' = (w.drewN n).drewN q) :
    Calls P f args (w.drewN n) fun e w'' => e = .returned v ∧ ∃ m, w'' = w.drewN m :=
  h.mono fun _ _ ⟨he, q, hq⟩ => ⟨he, n + q, by rw [hq, World.drewN_drewN]⟩

theorem vars_made (w : World) (l h : Int) (V : Value) (i q : Nat) : Vars w l h V i ((((w.alloc (.cells #[.int .u64 l, .int .u64 h] 38)).alloc (.cells #[V] 32)).alloc (.cells #[.int .i64 i] 3)).drewN q) := by
  have e1 : (w.alloc (.cells #[.int .u64 l, .int .u64 h] 38)).heap.size = w.heap.size + 1 := by simp
  have e2 : ((w.alloc (.cells #[.int .u64 l, .int .u64 h] 38)).alloc (.cells #[V] 32)).heap.size = w.heap.size + 1 + 1 := by simp
  refine ⟨?_, ?_, ?_, (((Kept.refl _ _).alloc _).alloc _).alloc _ |>.drewN _⟩
  · show ((((w.alloc _).alloc _).alloc _).heap)[w.heap.size]? = _
    rw [Below.heap_alloc _ _ _ (by rw [e2]; omega), Below.heap_alloc _ _ _ (by rw [e1]; omega)]
    exact heap_alloc_new w _
  · show ((((w.alloc _).alloc _).alloc _).heap)[w.heap.size + 1]? = _
    rw [Below.heap_alloc _ _ _ (by rw [e2]; omega)]
    have h := heap_alloc_new (w.alloc (.cells #[.int .u64 l, .int .u64 h] 38)) (.cells #[V] 32)
    rw [e1] at h
    exact h
  · have h := heap_alloc_new ((w.alloc (.cells #[.int .u64 l, .int .u64 h] 38)).alloc (.cells #[V] 32)) (.cells #[.int .i64 i] 3)
    rw [e2] at h
    exact h
theorem vars_of {w wx : World} {l h : Int} {V : Value} {i : Nat} (hh : wx.heap = (((w.alloc (.cells #[.int .u64 l, .int .u64 h] 38)).alloc (.cells #[V] 32)).alloc (.cells #[.int .i64 i] 3)).heap) (h1 : wx.os = w.os) (h2 : wx.tape = w.tape) (h3 : wx.output = w.output) : Vars w l h V i wx := by
  obtain ⟨a, b, c, d⟩ := vars_made w l h V i 0
  have e : wx.heap = ((((w.alloc (.cells #[.int .u64 l, .int .u64 h] 38)).alloc (.cells #[V] 32)).alloc (.cells #[.int .i64 i] 3)).drewN 0).heap := hh
  exact ⟨by rw [e]; exact a, by rw [e]; exact b, by rw [e]; exact c, ⟨h1, h2, h3, by rw [e]; exact d.size, fun k hk hn => by rw [e]; exact d.block k hk hn⟩⟩
theorem cell_one {w : World} {b : Nat} {a : Value} {T : TypeId} (h : w.heap[b]? = some (.cells #[a] T (0, 0))) : w.cell? ⟨b, 0, none⟩ = some a ∧ w.frozen? ⟨b, 0, none⟩ = false :=
  ⟨by rw [cell_of_row w b 0 _ T (0, 0) h]; rfl, frozen_of_row w b 0 _ T h⟩

/-- The tests of the two searches. -/
def p1 (C : List (Int × Int)) (l1 : Int) (t : Nat) : Bool := decide (l1 - 1 ≤ (C.getD t (0, 0)).2)
def p2 (C : List (Int × Int)) (hi : Int) (i t : Nat) : Bool := decide (hi < (C.getD (i + t) (0, 0)).1 - 1)

theorem find1 (sb vb : Nat) (ao : Option Addr) (n cc : Nat) (C : List (Int × Int)) (g off cap : Nat) (l1 lb : Int) (W : World) (hl1 : 1 ≤ l1) (hl2 : l1 ≤ 18446744073709551615) (hn : n = C.length) (hsz : n ≤ 140737488355328) (hcan : canon lb C)
    (hs : W.cell? ⟨sb, 0, none⟩ = some (.slice ao n cc)) (hv : W.cell? ⟨vb, 0, none⟩ = some (.int .u64 l1)) (hr : C ≠ [] → ao = some ⟨g, off, none⟩ ∧ Row W g off cap C) :
    Calls Try.prog 25 #[.int .i64 n, .func (.func 26) #[] #[.pointer (some ⟨sb, 0, none⟩), .pointer (some ⟨vb, 0, none⟩)]] W fun e w' => e = .returned (.int .i64 (cnt n (p1 C l1))) ∧ ∃ q, w' = W.drewN q := by
  refine search26c _ n (p1 C l1) W hsz (fun m i hi => ?_) (fun a b hab hb h => ?_)
  · obtain ⟨rfl, hrow⟩ := hr (fun h => by rw [h] at hn; simp at hn; omega)
    exact (clo1 i n cc sb vb g off cap C l1 (W.drewN m) (by omega) hn.symm hl1 hl2 hs hv hrow).mono fun e w' ⟨he, q, hq⟩ => ⟨he, m + q, by rw [hq, World.drewN_drewN]⟩
  · have := canon_at hcan a b hab (by omega)
    simp only [p1, decide_eq_true_eq] at h ⊢
    omega
theorem find2 (sb ib vb : Nat) (ao : Option Addr) (n i cc : Nat) (C : List (Int × Int)) (g off cap : Nat) (hi : Int) (lb : Int) (W : World) (hlb : 1 ≤ lb) (hn : n = C.length) (hi' : i ≤ n) (hsz : n ≤ 140737488355328) (hcan : canon lb C)
    (hs : W.cell? ⟨sb, 0, none⟩ = some (.slice ao n cc)) (hib : W.cell? ⟨ib, 0, none⟩ = some (.int .i64 i)) (hv : W.cell? ⟨vb, 1, none⟩ = some (.int .u64 hi)) (hr : C ≠ [] → ao = some ⟨g, off, none⟩ ∧ Row W g off cap C) :
    Calls Try.prog 25 #[.int .i64 ((n : Int) - i), .func (.func 27) #[] #[.pointer (some ⟨sb, 0, none⟩), .pointer (some ⟨ib, 0, none⟩), .pointer (some ⟨vb, 0, none⟩)]] W fun e w' => e = .returned (.int .i64 (cnt (n - i) (p2 C hi i))) ∧ ∃ q, w' = W.drewN q := by
  rw [show (n : Int) - i = ((n - i : Nat) : Int) by omega]
  refine search27c _ (n - i) (p2 C hi i) W (by omega) (fun m t ht => ?_) (fun a b hab hb h => ?_)
  · obtain ⟨rfl, hrow⟩ := hr (fun h => by rw [h] at hn; simp at hn; omega)
    have hm : C.getD (i + t) (0, 0) ∈ C := by simp [List.getD, show i + t < C.length by omega]
    have hb := canon_bd hcan _ hm
    exact (clo2 t i n cc sb ib vb g off cap C hi (W.drewN m) (by omega) hn.symm hsz (by omega) (by omega) hs hib hv hrow).mono fun e w' ⟨he, q, hq⟩ => ⟨he, m + q, by rw [hq, World.drewN_drewN]⟩
  · have := canon_at hcan (i + a) (i + b) (by omega) (by omega)
    simp only [p2, decide_eq_true_eq] at h ⊢
    omega

/-- What addSpan leaves. (A name, so that the walk's simp leaves it.) -/
def AddPost (pb : Nat) (s : ByteArray) (lo hi : Int) (F : Nat → Prop) (K : List UInt8 → List (Int × Int)) (nm : Nat) (w : World) (e : Ending) (w' : World) : Prop :=
  e = .returned (.tuple #[]) ∧ Kept F w w' ∧ ∃ R', canon 1 R' ∧ (∀ x, mem x R' ↔ (mem x (K (key s)) ∨ (1 ≤ x ∧ lo ≤ x ∧ x ≤ hi))) ∧ R'.length ≤ (K (key s)).length + 1 ∧
    Clock w' pb (fun k => F k ∨ (w.heap.size ≤ k ∧ k < w'.heap.size)) (upd K (key s) R') (nm + 1)
theorem cl_length (R : List (Int × Int)) : (cl R).length ≤ R.length := by
  cases R with
  | nil => exact Nat.le_refl _
  | cons p r => simp only [cl]; split <;> simp

theorem Try.info38 : (Try.prog.info? 38).map (fun i => (i.zero, i.size, i.bytes)) = some (some (.agg #[.int .u64 0, .int .u64 0]), 2, 16) := by kernel_rfl
theorem flat_append : ∀ (A B : List (Int × Int)), flat (A ++ B) = flat A ++ flat B
  | [], _ => rfl
  | p :: r, B => by simp [flat, flat_append r B]
theorem row_of_own {w : World} {base n : Nat} {v : Value} {L : List (Int × Int)} (h : w.ownsRow base 38 2 v n (flat L)) (hn : n = L.length) (h0 : 0 < n) : ∃ g cap, v = .slice (some ⟨g, 0, none⟩) n cap ∧ base ≤ g ∧ Row w g 0 cap L := by
  obtain ⟨_, ⟨_, e⟩ | ⟨g, cap, cur, rfl, hb, hg, hc, hm, hs, ht⟩⟩ := h
  · omega
  · refine ⟨g, cap, rfl, hb, cur, hg, by omega, by omega, hm, fun i hi => ?_⟩
    have hf := flat_at L i hi
    rw [← ht] at hf
    rw [List.getElem?_take, List.getElem?_take, if_pos (by omega), if_pos (by omega), Array.getElem?_toList, Array.getElem?_toList] at hf
    simpa using hf

theorem new2 (W : World) : ∀ j u, (flat [(0, 0)])[j]? = some u → (W.alloc (.cells #[.int .u64 0, .int .u64 0] 38)).cell? ((⟨W.heap.size, 0, none⟩ : Addr).add j) = some u := by
  intro j u hj
  rw [Addr.add_lit, cell_of_row _ W.heap.size (0 + j) _ 38 (0, 0) (heap_alloc_new W _), Nat.zero_add]
  match j, hj with
  | 0, h => exact h
  | 1, h => exact h
  | j + 2, h => simp [flat] at h

theorem Vars.far {w wc : World} {l h : Int} {V : Value} {i : Nat} (a : Vars w l h V i wc) : w.heap.size + 3 ≤ wc.heap.size := by
  have := (Array.getElem?_eq_some_iff.1 a.i).1
  omega

section
variable {pb : Nat} {s : ByteArray} {F : Nat → Prop} {K : List UInt8 → List (Int × Int)} {nm : Nat} {mb mc : Option Nat} {D E : DataW Unit} {sl : List UInt8 → Loc} {w W : World} {R' C : List (Int × Int)} {b L H : Int} {n cc i j g off : Nat} {V : Value}

/-- Spans i to j - 1 have become one. -/
theorem midC (hc : IsClock w pb F K nm mb mc D E sl) (hb : b = bs (K (key s))) (hbs : bs R' = b) (hn : n = C.length) (hij : i < j) (hjn : j ≤ n) (hcl : cl R' = C.take i ++ (L, H) :: C.drop j) (hv : Vars w L H V i W) (hr : Row W g off cc C) (hg : Old K sl s g) (hgw : g < w.heap.size) (t : Value) :
    ∃ V mb' D' g' off' c', t = t ∧ Mid pb s F K nm mb mc D E sl w R' V mb' D' g' off' c' ((((W.setCell ⟨g, off + i * 2, none⟩ (.int .u64 L)).setCell ⟨g, off + i * 2 + 1, none⟩ (.int .u64 H)).drew.setCells g (off + (i + 1) * 2) (flat (C.drop j))).setCell ⟨w.heap.size + 1, 0, none⟩ (.slice (some ⟨g, off, none⟩) (i + 1 + (n - j)) cc)) := by
  have hcap : C.length ≤ cc := by obtain ⟨_, _, _, h, _⟩ := hr; exact h
  have r1 : Row ((W.setCell ⟨g, off + i * 2, none⟩ (.int .u64 L)).setCell ⟨g, off + i * 2 + 1, none⟩ (.int .u64 H)).drew g off cc (C.take i ++ ([(L, H)] ++ C.drop (i + 1))) :=
    (hr.write i [(L, H)] (by omega) (by simp; omega)).later ((Kept.refl none' _).drew) (fun h => h)
  have r2 := r1.write (i + 1) (C.drop j) (by simp; omega) (by simp; omega)
  have r3 := r2.take (i + 1 + (n - j))
  have e1 : (C.take i ++ ([(L, H)] ++ C.drop (i + 1))).take (i + 1) = C.take i ++ [(L, H)] := by
    rw [← List.append_assoc, List.take_append_of_le_length (by simp; omega)]
    exact List.take_of_length_le (by simp; omega)
  have e2 : (C.take i ++ [(L, H)]).length = i + 1 := by simp; omega
  have e3 : ((C.take i ++ ([(L, H)] ++ C.drop (i + 1))).take (i + 1) ++ (C.drop j ++ (C.take i ++ ([(L, H)] ++ C.drop (i + 1))).drop (i + 1 + (C.drop j).length))).take (i + 1 + (n - j)) = cl R' := by
    rw [e1, hcl, ← List.append_assoc, List.take_append_of_le_length (by simp; omega), List.take_of_length_le (by simp; omega)]
    simp
  rw [e3] at r3
  have hm : i + 1 + (n - j) = (cl R').length := by rw [hcl]; simp; omega
  have hsz : w.heap.size + 1 ≠ g := by omega
  refine mid_of_row (g := g) (off := off) (c := cc) hc hb hbs (by rw [hcl]; simp) hm ?_ ?_ (.inr hg) ?_ t
  · refine (heap_setCell_same _ _ 0 #[V] 32 _ ?_).trans rfl
    rw [setCells_other g _ _ _ _ hsz]
    exact (Below.heap_setCell _ _ _ _ hsz).trans ((Below.heap_setCell _ _ _ _ hsz).trans hv.v)
  · exact r3.later ((Kept.refl (fun k => k = w.heap.size + 1) _).setCell (p := ⟨w.heap.size + 1, 0, none⟩) (fun _ => rfl) _) (fun h => hsz h.symm)
  · have k0 : Kept (Old K sl s) w W := hv.kept.mono (fun _ _ h => h.elim)
    exact (Kept.setCells (fun _ => hg) _ _ _ ((k0.setCell (p := ⟨g, off + i * 2, none⟩) (fun _ => hg) _).setCell (p := ⟨g, off + i * 2 + 1, none⟩) (fun _ => hg) _).drew).setCell (fun h => by simp at h; omega) _

/-- Behind the append of arm B. -/
structure Grown (K : List UInt8 → List (Int × Int)) (sl : List UInt8 → Loc) (s : ByteArray) (w : World) (l h : Int) (i n : Nat) (C : List (Int × Int)) (g off c : Nat) (wc : World) : Prop where
  sv : wc.heap[w.heap.size]? = some (.cells #[.int .u64 l, .int .u64 h] 38 (0, 0))
  v : wc.heap[w.heap.size + 1]? = some (.cells #[.slice (some ⟨g, off, none⟩) (n + 1) c] 32 (0, 0))
  iv : wc.heap[w.heap.size + 1 + 1]? = some (.cells #[.int .i64 i] 3 (0, 0))
  row : Row wc g off c (C ++ [(0, 0)])
  kept : Kept (Old K sl s) w wc
  far : w.heap.size + 3 ≤ g ∨ (Old K sl s g ∧ g < w.heap.size)

theorem grown_room (hn : n = C.length) (hroom : n + 1 ≤ cc) (hv : Vars w L H V i W) (hr : Row W g off cc C) (hg : Old K sl s g) (hgw : g < w.heap.size) (ob : Obj) :
    Grown K sl s w L H i n C g off cc (((W.alloc ob).setCells g (off + n * 2) (flat [(0, 0)])).setCell ⟨w.heap.size + 1, 0, none⟩ (.slice (some ⟨g, off, none⟩) (n + 1) cc)) := by
  have hf := hv.far
  have ha : ∀ k, k < w.heap.size + 3 → (W.alloc ob).heap[k]? = W.heap[k]? := fun k hk => Below.heap_alloc _ _ _ (by omega)
  have r0 : Row (W.alloc ob) g off cc C := hr.later ((Kept.refl none' _).alloc ob) (fun h => h)
  have r1 := r0.write n [(0, 0)] (by omega) (by simpa using hroom)
  have e1 : C.take n ++ ([(0, 0)] ++ C.drop (n + [((0 : Int), (0 : Int))].length)) = C ++ [(0, 0)] := by
    rw [List.take_of_length_le (by omega), List.drop_eq_nil_of_le (by simp; omega)]; simp
  rw [e1] at r1
  refine ⟨?_, ?_, ?_, ?_, ?_, .inr ⟨hg, hgw⟩⟩
  · rw [Below.heap_setCell _ _ _ _ (by show w.heap.size ≠ w.heap.size + 1; omega), setCells_other g _ _ _ _ (by omega), ha _ (by omega)]; exact hv.s
  · refine (heap_setCell_same _ _ 0 #[V] 32 _ ?_).trans rfl
    rw [setCells_other g _ _ _ _ (by omega), ha _ (by omega)]; exact hv.v
  · rw [Below.heap_setCell _ _ _ _ (by show w.heap.size + 1 + 1 ≠ w.heap.size + 1; omega), setCells_other g _ _ _ _ (by omega), ha _ (by omega)]; exact hv.i
  · exact r1.later ((Kept.refl (fun k => k = w.heap.size + 1) _).setCell (p := ⟨w.heap.size + 1, 0, none⟩) (fun _ => rfl) _) (fun h => by omega)
  · exact (Kept.setCells (fun _ => hg) _ _ _ (((hv.kept.mono (fun _ _ h => h.elim)).alloc ob))).setCell (fun h => by simp at h; omega) _

theorem grown_new {w' : World} {v' : Value} {ob : Obj} (hn : n = C.length) (hv : Vars w L H V i W) (ho : w'.ownsRow (W.heap.size + 1) 38 2 v' (n + 1) (flat C ++ flat [(0, 0)])) (hgr : (W.alloc ob).grownBy w' none) :
    ∃ g c, v' = .slice (some ⟨g, 0, none⟩) (n + 1) c ∧ Grown K sl s w L H i n C g 0 c (w'.setCell ⟨w.heap.size + 1, 0, none⟩ v') := by
  have hf := hv.far
  rw [← flat_append] at ho
  obtain ⟨g, cap, rfl, hb, hr⟩ := row_of_own ho (by simp; omega) (by omega)
  have k1 : Kept none' W w' := ((Kept.refl none' W).alloc ob).grown hgr (fun k e => by simp at e)
  have hk : ∀ k, k < w.heap.size + 3 → w'.heap[k]? = W.heap[k]? := fun k h => k1.block k (by omega) (fun h => h)
  refine ⟨g, cap, rfl, ?_, ?_, ?_, ?_, ?_, .inl (by omega)⟩
  · rw [Below.heap_setCell _ _ _ _ (by show w.heap.size ≠ w.heap.size + 1; omega), hk _ (by omega)]; exact hv.s
  · refine (heap_setCell_same _ _ 0 #[V] 32 _ ?_).trans rfl
    rw [hk _ (by omega)]; exact hv.v
  · rw [Below.heap_setCell _ _ _ _ (by show w.heap.size + 1 + 1 ≠ w.heap.size + 1; omega), hk _ (by omega)]; exact hv.i
  · exact hr.later ((Kept.refl (fun k => k = w.heap.size + 1) _).setCell (p := ⟨w.heap.size + 1, 0, none⟩) (fun _ => rfl) _) (fun h => by omega)
  · exact ((hv.kept.mono (fun _ _ h => h.elim)).trans k1 (fun _ _ h => h.elim)).setCell (fun h => by simp at h; omega) _

theorem midB (hc : IsClock w pb F K nm mb mc D E sl) (hb : b = bs (K (key s))) (hbs : bs R' = b) (hn : n = C.length) (hin : i ≤ n) (hcl : cl R' = C.take i ++ (L, H) :: C.drop i) (hv : Grown K sl s w L H i n C g off cc W) (t : Value) :
    ∃ V mb' D' g' off' c', t = t ∧ Mid pb s F K nm mb mc D E sl w R' V mb' D' g' off' c' (((W.drew.setCells g (off + (i + 1) * 2) (flat (C.drop i))).setCell ⟨g, off + i * 2, none⟩ (.int .u64 L)).setCell ⟨g, off + i * 2 + 1, none⟩ (.int .u64 H)) := by
  have hcap : n + 1 ≤ cc := by obtain ⟨_, _, _, h, _⟩ := hv.row; simpa [hn] using h
  have r0 : Row W.drew g off cc (C ++ [(0, 0)]) := hv.row.later ((Kept.refl none' _).drew) (fun h => h)
  have r1 := r0.write (i + 1) (C.drop i) (by simp; omega) (by simp; omega)
  have r2 := r1.write i [(L, H)] (by simp; omega) (by simp; omega)
  have e1 : ((C ++ [((0 : Int), (0 : Int))]).take (i + 1) ++ (C.drop i ++ (C ++ [(0, 0)]).drop (i + 1 + (C.drop i).length))).take i = C.take i := by
    rw [List.take_append_of_le_length (by simp; omega), List.take_take, show min i (i + 1) = i by omega, List.take_append_of_le_length (by omega)]
  have e2 : ((C ++ [((0 : Int), (0 : Int))]).take (i + 1) ++ (C.drop i ++ (C ++ [(0, 0)]).drop (i + 1 + (C.drop i).length))).drop (i + [((L : Int), (H : Int))].length) = C.drop i := by
    have e3 : (C ++ [((0 : Int), (0 : Int))]).drop (i + 1 + (C.drop i).length) = [] := List.drop_eq_nil_of_le (by simp; omega)
    have e5 : ((C ++ [((0 : Int), (0 : Int))]).take (i + 1)).length = i + 1 := by rw [List.length_take, List.length_append]; show min (i + 1) (C.length + 1) = i + 1; omega
    rw [e3, List.append_nil, List.drop_append, List.drop_eq_nil_of_le (by rw [e5]; exact Nat.le_refl _), List.nil_append, e5]
    show (C.drop i).drop (i + 1 - (i + 1)) = _
    rw [Nat.sub_self]
    rfl
  rw [e1, e2] at r2
  have e4 : C.take i ++ ([(L, H)] ++ C.drop i) = cl R' := by rw [hcl]; rfl
  rw [e4] at r2
  have hm : n + 1 = (cl R').length := by rw [hcl]; simp; omega
  have hsz : w.heap.size + 1 ≠ g := by rcases hv.far with h | h <;> omega
  have hgo : g < w.heap.size → Old K sl s g := fun h => by rcases hv.far with h' | h'; omega; exact h'.1
  refine mid_of_row (g := g) (off := off) (c := cc) hc hb hbs (by rw [hcl]; simp) hm ?_ r2 ?_ ?_ t
  · refine (Below.heap_setCell _ _ _ _ hsz).trans ((Below.heap_setCell _ _ _ _ hsz).trans ?_)
    rw [setCells_other g _ _ _ _ hsz]; exact hv.v
  · rcases hv.far with h | h
    · exact .inl (by omega)
    · exact .inr h.1
  · exact ((Kept.setCells hgo _ _ _ hv.kept.drew).setCell (p := ⟨g, off + i * 2, none⟩) hgo _).setCell (p := ⟨g, off + i * 2 + 1, none⟩) hgo _
end
end Go.Proofs.Qxb6630298a
