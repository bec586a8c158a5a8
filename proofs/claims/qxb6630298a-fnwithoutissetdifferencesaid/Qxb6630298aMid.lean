/-
  addSpan, its last call: from the world behind the switch to the clock.
-/
import Derived.Test.Qxb6630298aSets
import Derived.Test.Qxb6630298aUpd
namespace Go.Proofs.Qxb6630298a
open Go.RowKit Go.Maps

/-- The world behind addSpan's switch: the new base stands; the new cloud slice lies in the variable. -/
structure Mid (pb : Nat) (s : ByteArray) (F : Nat → Prop) (K : List UInt8 → List (Int × Int)) (nm : Nat) (mb mc : Option Nat) (D E : DataW Unit) (sl : List UInt8 → Loc) (w : World) (R' : List (Int × Int)) (V : Value) (mb' : Option Nat) (D' : DataW Unit) (g off c : Nat) (wc : World) : Prop where
  v : wc.heap[w.heap.size + 1]? = some (.cells #[V] 32 (0, 0))
  struct : wc.heap[pb]? = some (.cells #[.map mb', .map mc] 44 (0, 0))
  base : (mb' = none ∧ D' = .map []) ∨ ∃ b, mb' = some b ∧ (mb = some b ∨ w.heap.size ≤ b) ∧ wc.ownsMap Try.prog 9 (plainElem Try.prog 24) b (nm + 1) D'
  cloud : MapAt wc rawElem mc nm E
  new : (D' = D ∧ bs R' = bs (K (key s))) ∨ (D' = D.put (.string (key s)) (.lit (.int .u64 (bs R'))) ∧ 0 < bs R')
  slice : (cl R' = [] ∧ ∃ a c n, n = 0 ∧ V = .slice a n c) ∨ (cl R' ≠ [] ∧ V = .slice (some ⟨g, off, none⟩) (cl R').length c ∧ Row wc g off c (cl R') ∧ (w.heap.size ≤ g ∨ (cl (K (key s)) ≠ [] ∧ g = (sl (key s)).g)))
  kept : Kept (fun k => k = pb ∨ mb = some k ∨ (cl (K (key s)) ≠ [] ∧ k = (sl (key s)).g)) w wc

theorem owns_ne_cells {w : World} {b g n : Nat} {R : Value → Option (DataW Unit × List MemPlace)} {D : DataW Unit} {cur : Array Value} {T : TypeId} {fr : Nat × Nat} (ho : w.ownsMap Try.prog 9 R b n D) (hg : w.heap[g]? = some (.cells cur T fr)) : b ≠ g := by
  rintro rfl
  obtain ⟨es, clk, hb, _⟩ := ho
  rw [hg] at hb
  simp at hb
theorem MapAt.ne {w : World} {R : Value → Option (DataW Unit × List MemPlace)} {m : Option Nat} {n g : Nat} {D : DataW Unit} {cur : Array Value} {T : TypeId} {fr : Nat × Nat} (h : MapAt w R m n D) (hg : w.heap[g]? = some (.cells cur T fr)) : m ≠ some g := by
  rintro rfl
  rcases h with ⟨e, _⟩ | ⟨b, e, ho⟩
  · cases e
  · cases e; exact owns_ne_cells ho hg rfl
theorem cells_ne {w : World} {g g' : Nat} {cur cur' : Array Value} {T T' : TypeId} {fr fr' : Nat × Nat} (h : w.heap[g]? = some (.cells cur T fr)) (h' : w.heap[g']? = some (.cells cur' T' fr')) (hT : T ≠ T') : g ≠ g' := by
  rintro rfl
  rw [h] at h'
  simp at h'
  exact hT h'.2.1
theorem IsClock.row_ne {w : World} {pb : Nat} {F : Nat → Prop} {K : List UInt8 → List (Int × Int)} {nm : Nat} {mb mc : Option Nat} {D E : DataW Unit} {sl : List UInt8 → Loc} (h : IsClock w pb F K nm mb mc D E sl) (k : List UInt8) (hk : cl (K k) ≠ []) :
    (sl k).g ≠ pb ∧ mb ≠ some (sl k).g ∧ mc ≠ some (sl k).g ∧ (sl k).g < w.heap.size ∧ F (sl k).g := by
  obtain ⟨_, hr, hf⟩ := h.rows k hk
  have hl := hr.lt
  obtain ⟨cur, hg, _⟩ := hr
  refine ⟨cells_ne hg h.struct (by decide), ?_, ?_, hl, hf⟩
  · exact MapAt.ne (n := nm) (D := D) (h.base.imp id (fun ⟨b, e, _, ho⟩ => ⟨b, e, ho⟩)) hg
  · exact MapAt.ne (n := nm) (D := E) (h.cloud.imp id (fun ⟨b, e, _, ho⟩ => ⟨b, e, ho⟩)) hg

theorem mid_call {pb : Nat} {s : ByteArray} {F : Nat → Prop} {K : List UInt8 → List (Int × Int)} {nm : Nat} {mb mc : Option Nat} {D E : DataW Unit} {sl : List UInt8 → Loc} {w : World} {R' : List (Int × Int)} {V : Value} {mb' : Option Nat} {D' : DataW Unit} {g off c : Nat} {wc : World}
    (hs : s.size ≤ maxLen) (hnm : nm < maxLen) (hc : IsClock w pb F K nm mb mc D E sl) (hR : canon 1 R') (h : Mid pb s F K nm mb mc D E sl w R' V mb' D' g off c wc) :
    Calls Try.prog 29 #[.pointer (some ⟨pb, 0, none⟩), .string s, V] wc fun e w' => e = .returned (.tuple #[]) ∧ Kept F w w' ∧ Clock w' pb (fun k => F k ∨ (w.heap.size ≤ k ∧ k < w'.heap.size)) (upd K (key s) R') (nm + 1) := by
  have hFb : ∀ b, mb = some b → F b := fun b e => by
    rcases hc.base with ⟨e', _⟩ | ⟨b', e', hf, _⟩
    · rw [e] at e'; cases e'
    · rw [e] at e'; cases e'; exact hf
  have hFc : ∀ b, mc = some b → F b := fun b e => by
    rcases hc.cloud with ⟨e', _⟩ | ⟨b', e', hf, _⟩
    · rw [e] at e'; cases e'
    · rw [e] at e'; cases e'; exact hf
  have hbase : ∀ b, mb' = some b → F b ∨ w.heap.size ≤ b := fun b e => by
    rcases h.base with ⟨e', _⟩ | ⟨b', e', hf, _⟩
    · rw [e] at e'; cases e'
    · rw [e] at e'; cases e'; exact hf.imp (hFb _) id
  have htw : ∀ b, mb' = some b → mc ≠ some b := fun b e e2 => by
    rcases h.base with ⟨e', _⟩ | ⟨b', e', hf, ho⟩
    · rw [e] at e'; cases e'
    · rw [e] at e'; cases e'
      rcases hf with hf | hf
      · exact hc.two _ hf e2
      · have := hc.bound _ (hFc _ e2); omega
  have hkF : ∀ G, (∀ i, i < w.heap.size → G i → F i) → ∀ w', Kept G wc w' → Kept F w w' := fun G hG w' hk => by
    refine Kept.trans (h.kept.mono (fun i _ hi => ?_)) hk hG
    rcases hi with rfl | hi | ⟨hi, rfl⟩
    · exact hc.fp
    · exact hFb _ hi
    · exact (hc.row_ne _ hi).2.2.2.2
  have hbaseLater : ∀ G w', Kept G wc w' → (∀ b, mb' = some b → ¬ G b) → (mb' = none ∧ D' = .map []) ∨ ∃ b, mb' = some b ∧ (F b ∨ (w.heap.size ≤ b ∧ b < w'.heap.size)) ∧ w'.ownsMap Try.prog 9 (plainElem Try.prog 24) b (nm + 1) D' := fun G w' hk hn => by
    rcases h.base with e | ⟨b, e, hf, ho⟩
    · exact .inl e
    · have ho' := ownsMap_later ho hk (hn b e)
      have hl : b < w'.heap.size := by obtain ⟨es, clk, hb, _⟩ := ho'; exact (Array.getElem?_eq_some_iff.1 hb).1
      exact .inr ⟨b, e, (hbase b e).imp id (fun h => ⟨h, hl⟩), ho'⟩
  have hother : ∀ G w', Kept G wc w' → (∀ b, G b → b = pb ∨ mc = some b) → ∀ k, k ≠ key s → cl (K k) ≠ [] → w'.heap[(sl k).g]? = w.heap[(sl k).g]? := fun G w' hk hG k hne hk0 => by
    obtain ⟨n1, n2, n3, n4, n5⟩ := hc.row_ne k hk0
    rw [hk.block _ (Nat.lt_of_lt_of_le n4 h.kept.size) (fun hg => by rcases hG _ hg with e | e; exact n1 e; exact n3 e)]
    refine h.kept.block _ n4 (fun hg => ?_)
    rcases hg with e | e | ⟨e0, e⟩
    · exact n1 e
    · exact n2 e
    · exact hc.apart k (key s) hk0 e0 hne e
  rcases h.slice with ⟨h0, a, c', n', hn0, rfl⟩ | ⟨h0, rfl, hrow, hg⟩
  · refine (setCloud_zero pb s a n' c' mb' mc nm E wc hn0 hs h.struct h.cloud).mono ?_
    rintro e w' ⟨rfl, hst, hm, hk⟩
    refine ⟨rfl, hkF _ (fun i _ hi => hFc _ hi) _ hk, mb', mc, D', E.del (.string (key s)), upd sl (key s) ⟨0, 0, 0⟩, ?_⟩
    refine hc.update (key s) hR hst (fun k hk => .inl hk) (fun k hk' => hk'.elim (fun h => Nat.lt_of_lt_of_le (hc.bound _ h) (Nat.le_trans ‹Mid _ _ _ _ _ _ _ _ _ _ _ _ _ _ _ _ _ _ _›.kept.size hk.size)) (fun h => h.2)) (hbaseLater _ _ hk (fun b e1 e2 => htw b e1 e2)) ?_ h.new (.inl ⟨h0, rfl⟩) (fun h => absurd h0 h) (hother _ _ hk (fun b e => .inr e)) (fun _ _ _ h => absurd h0 h) htw
    rcases hm with ⟨e1, e2⟩ | ⟨b, e1, ho⟩
    · exact .inl ⟨e1, e2⟩
    · exact .inr ⟨b, e1, .inl (hFc _ e1), ho.mono (Nat.le_succ _)⟩
  · have hlen : 0 < (cl R').length := List.length_pos_iff.2 h0
    refine (setCloud_put pb s g off _ c mb' mc nm E wc hs hlen hnm h.struct h.cloud).mono ?_
    rintro e w' ⟨rfl, b', hst, ho, hb', hk⟩
    have hgl : g < wc.heap.size := hrow.lt
    have hgne : ¬ (g = pb ∨ mc = some g) := by
      obtain ⟨cur, hg', _⟩ := hrow
      rintro (e | e)
      · exact cells_ne hg' h.struct (by decide) e
      · exact h.cloud.ne hg' e
    have hl' : b' < w'.heap.size := by obtain ⟨es, clk, hb, _⟩ := ho; exact (Array.getElem?_eq_some_iff.1 hb).1
    refine ⟨rfl, hkF _ (fun i _ hi => hi.elim (fun e => e ▸ hc.fp) (hFc _)) _ hk, mb', some b', D', E.put (.string (key s)) (rawData g off (cl R').length c), upd sl (key s) ⟨g, off, c⟩, ?_⟩
    refine hc.update (key s) hR hst (fun k hk => .inl hk) (fun k hk' => hk'.elim (fun h' => Nat.lt_of_lt_of_le (hc.bound _ h') (Nat.le_trans h.kept.size hk.size)) (fun h => h.2)) (hbaseLater _ _ hk ?_) (.inr ⟨b', rfl, ?_, ho⟩) h.new (.inr ⟨h0, rfl⟩) (fun _ => ⟨hrow.later hk hgne, ?_⟩) (hother _ _ hk (fun b e => e)) ?_ ?_
    · rintro b e1 (e2 | e2)
      · subst e2
        rcases h.base with ⟨e', _⟩ | ⟨b2, e', hf, ho2⟩
        · rw [e1] at e'; cases e'
        · rw [e1] at e'; cases e'; exact owns_ne_cells ho2 h.struct rfl
      · exact htw b e1 e2
    · rcases hb' with e | e
      · exact .inl (hFc _ e)
      · exact .inr ⟨Nat.le_trans h.kept.size e, hl'⟩
    · rcases hg with e | ⟨e0, e⟩
      · exact .inr ⟨e, Nat.lt_of_lt_of_le hgl hk.size⟩
      · exact .inl (by rw [e]; exact (hc.row_ne _ e0).2.2.2.2)
    · intro k hne hk0 _ e
      change (sl k).g = g at e
      rcases hg with e1 | ⟨e0, e1⟩
      · have := (hc.row_ne k hk0).2.2.2.1; omega
      · exact hc.apart k (key s) hk0 e0 hne (e.trans e1)
    · intro b e1 e2
      cases e2
      rcases hb' with e | e
      · exact htw _ e1 e
      · rcases h.base with ⟨e', _⟩ | ⟨b2, e', hf, ho2⟩
        · rw [e1] at e'; cases e'
        · rw [e1] at e'; cases e'
          obtain ⟨es, clk, hb, _⟩ := ho2
          have := (Array.getElem?_eq_some_iff.1 hb).1
          omega
end Go.Proofs.Qxb6630298a
