/-
  WHAT addSpan MAKES OF ONE KEY's RANGES: plain laws; and the clock behind it.
-/
import Derived.Test.Qxb6630298aMem
namespace Go.Proofs.Qxb6630298a
open Go.RowKit Go.Maps

theorem lo2_at (l : Int) (C : List (Int × Int)) (i j : Nat) (hij : i ≤ j) (hj : j ≤ C.length) : lo2 l ((C.drop i).take (j - i)) = if i < j then min l (C.getD i (0, 0)).1 else l := by
  by_cases h : i < j
  · rw [if_pos h, List.drop_eq_getElem_cons (by omega), show j - i = (j - i - 1) + 1 by omega, List.take_succ_cons]
    simp [lo2, List.getD, show i < C.length by omega]
  · rw [if_neg h, show j - i = 0 by omega]; rfl
theorem hi2_snoc (h : Int) (A : List (Int × Int)) (p : Int × Int) : hi2 h (A ++ [p]) = max (hi2 h A) p.2 := by simp [hi2]
theorem hi2_at {lb : Int} (h : Int) (C : List (Int × Int)) (i j : Nat) (hij : i ≤ j) (hj : j ≤ C.length) (hc : canon lb C) : hi2 h ((C.drop i).take (j - i)) = if i < j then max h (C.getD (j - 1) (0, 0)).2 else h := by
  induction j with
  | zero => rw [if_neg (by omega), show 0 - i = 0 by omega]; rfl
  | succ j ih =>
    by_cases hi : i ≤ j
    · rw [if_pos (by omega), show j + 1 - i = (j - i) + 1 by omega, List.take_succ_eq_append_getElem (by simp; omega), hi2_snoc, ih hi (by omega)]
      have e : ((C.drop i)[j - i]'(by simp; omega)) = C.getD j (0, 0) := by simp [List.getD, show j < C.length by omega, show i + (j - i) = j by omega]
      rw [e, Nat.add_sub_cancel]
      by_cases hlt : i < j
      · rw [if_pos hlt]
        have hm := canon_two hc (j - 1) j (by omega) (by omega)
        omega
      · rw [if_neg hlt]
    · rw [if_neg (by omega), show j + 1 - i = 0 by omega]; rfl
where
  canon_two {lb : Int} : ∀ {L : List (Int × Int)}, canon lb L → ∀ i j, i ≤ j → j < L.length → (L.getD i (0, 0)).2 ≤ (L.getD j (0, 0)).2
    | [], _, _, _, _, h => by simp at h
    | p :: r, hc, 0, 0, _, _ => Int.le_refl _
    | p :: r, hc, 0, j + 1, _, h => by
      have hj : j < r.length := by simpa using h
      have hm : r.getD j (0, 0) ∈ r := by simp [List.getD, hj]
      have := canon_bd hc.2.2.2 _ hm
      have := hc.2.1
      simp only [List.getD_cons_zero, List.getD_cons_succ]
      omega
    | p :: r, hc, i + 1, j + 1, hij, h => by
      simp only [List.getD_cons_succ]
      exact canon_two hc.2.2.2 i j (by omega) (by simpa using h)

/-- The new ranges of the key. -/
def newR (b : Int) (C : List (Int × Int)) (L H : Int) (i j : Nat) : List (Int × Int) :=
  if L = b + 1 then rng H (C.drop j) else rng b (C.take i ++ (L, H) :: C.drop j)

theorem new_law {b lo hi l1 L H : Int} {C : List (Int × Int)} {i j n : Nat} (hn : n = C.length) (hb0 : 0 ≤ b) (hcan : canon (b + 2) C) (hl1 : l1 = max lo (b + 1)) (hlo : 0 ≤ lo) (hlh : lo ≤ hi) (hbh : b < hi) (hM : hi ≤ 18446744073709551615)
    (hij : i ≤ j) (hjn : j ≤ n) (h1 : ∀ t, t < i → (C.getD t (0, 0)).2 < l1 - 1) (h2 : ∀ t, i ≤ t → t < n → l1 - 1 ≤ (C.getD t (0, 0)).2)
    (h3 : ∀ t, i ≤ t → t < j → (C.getD t (0, 0)).1 - 1 ≤ hi) (h4 : ∀ t, j ≤ t → t < n → hi < (C.getD t (0, 0)).1 - 1)
    (hL : L = if i < j then min l1 (C.getD i (0, 0)).1 else l1) (hH : H = if i < j then max hi (C.getD (j - 1) (0, 0)).2 else hi) :
    canon 1 (newR b C L H i j) ∧ (∀ x, mem x (newR b C L H i j) ↔ (mem x (rng b C) ∨ (1 ≤ x ∧ lo ≤ x ∧ x ≤ hi))) ∧ (newR b C L H i j).length ≤ (rng b C).length + 1 ∧
    (L = b + 1 → bs (newR b C L H i j) = H ∧ cl (newR b C L H i j) = C.drop j ∧ b < H) ∧ (¬ L = b + 1 → bs (newR b C L H i j) = b ∧ cl (newR b C L H i j) = C.take i ++ (L, H) :: C.drop j) := by
  subst hn
  have eC : C = C.take i ++ ((C.drop i).take (j - i) ++ C.drop j) := by
    have e : C.drop j = (C.drop i).drop (j - i) := by rw [List.drop_drop]; congr 1; omega
    rw [e, List.take_append_drop, List.take_append_drop]
  have hcan' := hcan
  rw [eC] at hcan'
  have hP : ∀ p ∈ C.take i, p.2 < l1 - 1 := fun p hp => by
    obtain ⟨t, ht, rfl⟩ := List.mem_iff_getElem.1 hp
    have htl : t < i ∧ t < C.length := by rw [List.length_take] at ht; omega
    have := h1 t htl.1
    simpa [List.getD, htl.2] using this
  have hMid : ∀ p ∈ (C.drop i).take (j - i), l1 - 1 ≤ p.2 ∧ p.1 - 1 ≤ hi := fun p hp => by
    obtain ⟨t, ht, rfl⟩ := List.mem_iff_getElem.1 hp
    have htl : t < j - i ∧ i + t < C.length := by rw [List.length_take, List.length_drop] at ht; omega
    have a1 := h2 (i + t) (by omega) htl.2
    have a2 := h3 (i + t) (by omega) (by omega)
    simp only [List.getElem_take, List.getElem_drop]
    simp only [List.getD, htl.2, List.getElem?_eq_getElem, Option.getD_some] at a1 a2
    exact ⟨a1, a2⟩
  have hS : ∀ p ∈ C.drop j, hi < p.1 - 1 := fun p hp => by
    obtain ⟨t, ht, rfl⟩ := List.mem_iff_getElem.1 hp
    have htl : j + t < C.length := by rw [List.length_drop] at ht; omega
    have a1 := h4 (j + t) (by omega) htl
    simp only [List.getElem_drop]
    simp only [List.getD, htl, List.getElem?_eq_getElem, Option.getD_some] at a1
    exact a1
  obtain ⟨k1, k2⟩ := add_core (lo := l1) (hi := hi) (by omega) hM (lb := b + 2) (c := b + 1) hcan' (by omega) (by omega) hP hMid hS
  rw [lo2_at l1 C i j hij hjn, hi2_at hi C i j hij hjn hcan, ← hL, ← hH] at k1 k2
  rw [← eC] at k2
  have hHhi : hi ≤ H := by rw [hH]; split <;> omega
  have hHM : H ≤ 18446744073709551615 := (canon_bd k1 (L, H) (by simp)).2.2
  by_cases e : L = b + 1
  · have ei : i = 0 := by
      rcases Nat.eq_zero_or_pos i with h | h
      · exact h
      · have hi0 : 0 < C.length := by omega
        have hb2 := canon_behind k1 (C[0]'hi0) (by rw [List.mem_take_iff_getElem]; exact ⟨0, by omega, rfl⟩) (L, H) (by simp)
        have hb3 := canon_bd hcan (C[0]'hi0) (by simp)
        simp only at hb2
        omega
    subst ei
    rw [List.take_zero, List.nil_append] at k1 k2
    have hr := rng_canon (b := H) (C := C.drop j) (by omega) hHM k1.2.2.2
    have hdef : newR b C L H 0 j = rng H (C.drop j) := if_pos e
    rw [hdef]
    refine ⟨hr.1, fun x => ?_, ?_, fun _ => ⟨hr.2.1, hr.2.2, by omega⟩, fun h => absurd e h⟩
    · rw [rng_mem _ x (by omega), rng_mem _ x hb0]
      have := k2 x
      rw [mem_cons] at this
      simp only at this
      constructor
      · rintro (h | h)
        · by_cases hx : x ≤ b
          · exact .inl (.inl ⟨h.1, hx⟩)
          · rcases this.1 (.inl (by omega)) with h' | h'
            · exact .inl (.inr h')
            · exact .inr (by omega)
        · rcases this.1 (.inr h) with h' | h'
          · exact .inl (.inr h')
          · exact .inr (by omega)
      · rintro ((h | h) | h)
        · exact .inl (by omega)
        · rcases this.2 (.inl h) with h' | h'
          · exact .inl (by omega)
          · exact .inr h'
        · by_cases hx : x ≤ b
          · exact .inl (by omega)
          · rcases this.2 (.inr (by omega)) with h' | h'
            · exact .inl (by omega)
            · exact .inr h'
    · unfold rng
      split <;> split <;> simp <;> omega
  · have hX : canon (b + 2) (C.take i ++ (L, H) :: C.drop j) := by
      refine canon_start k1 fun p hp => ?_
      rcases List.mem_append.1 hp with hp | hp
      · exact (canon_bd hcan p (List.mem_of_mem_take hp)).1
      · have hge := (canon_bd k1 (L, H) (by simp)).1
        rcases List.mem_cons.1 hp with rfl | hp
        · simp only at hge ⊢; omega
        · exact (canon_bd hcan p (List.mem_of_mem_drop hp)).1
    have hr := rng_canon (b := b) hb0 (by omega) hX
    have hdef : newR b C L H i j = rng b (C.take i ++ (L, H) :: C.drop j) := if_neg e
    rw [hdef]
    refine ⟨hr.1, fun x => ?_, ?_, fun h => absurd h e, fun _ => ⟨hr.2.1, hr.2.2⟩⟩
    · rw [rng_mem _ x hb0, rng_mem _ x hb0, k2 x]
      constructor
      · rintro (h | h | h)
        · exact .inl (.inl h)
        · exact .inl (.inr h)
        · exact .inr (by omega)
      · rintro ((h | h) | h)
        · exact .inl h
        · exact .inr (.inl h)
        · by_cases hx : x ≤ b
          · exact .inl (by omega)
          · exact .inr (.inr (by omega))
    · unfold rng
      split <;> simp <;> omega

/-- A function changed at one key. -/
def upd {α : Type} (f : List UInt8 → α) (k0 : List UInt8) (v : α) : List UInt8 → α := fun k => if k = k0 then v else f k
theorem upd_same {α : Type} (f : List UInt8 → α) (k0 : List UInt8) (v : α) : upd f k0 v k0 = v := if_pos rfl
theorem upd_other {α : Type} (f : List UInt8 → α) {k0 k : List UInt8} (v : α) (h : k ≠ k0) : upd f k0 v k = f k := if_neg h
theorem str_ne {k k0 : List UInt8} (h : k ≠ k0) : (Lit.string k) ≠ Lit.string k0 := fun e => h (by injection e)

theorem keyLit (k : List UInt8) : WideAt.IsKeyLit (.string k) := trivial

theorem IsClock.isMapD {w : World} {pb : Nat} {F : Nat → Prop} {K : List UInt8 → List (Int × Int)} {nm : Nat} {mb mc : Option Nat} {D E : DataW Unit} {sl : List UInt8 → Loc} (h : IsClock w pb F K nm mb mc D E sl) : IsMap D := by
  rcases h.base with ⟨_, rfl⟩ | ⟨b, _, _, ho⟩
  · exact isMap_empty
  · exact ho.isMap
theorem IsClock.isMapE {w : World} {pb : Nat} {F : Nat → Prop} {K : List UInt8 → List (Int × Int)} {nm : Nat} {mb mc : Option Nat} {D E : DataW Unit} {sl : List UInt8 → Loc} (h : IsClock w pb F K nm mb mc D E sl) : IsMap E := by
  rcases h.cloud with ⟨_, rfl⟩ | ⟨b, _, _, ho⟩
  · exact isMap_empty
  · exact ho.isMap

/-- THE CLOCK BEHIND A CHANGE OF ONE KEY. -/
theorem IsClock.update {w w' : World} {pb : Nat} {F F' : Nat → Prop} {K : List UInt8 → List (Int × Int)} {nm nm' : Nat} {mb mc mb' mc' : Option Nat} {D E D' E' : DataW Unit} {sl : List UInt8 → Loc} (h : IsClock w pb F K nm mb mc D E sl) (k0 : List UInt8) {R' : List (Int × Int)} (hR : Qxb6630298a.canon 1 R') {loc : Loc}
    (hst : w'.heap[pb]? = some (.cells #[.map mb', .map mc'] 44 (0, 0))) (hF : ∀ k, F k → F' k) (hbd : ∀ k, F' k → k < w'.heap.size)
    (hb : (mb' = none ∧ D' = .map []) ∨ ∃ b, mb' = some b ∧ F' b ∧ w'.ownsMap Try.prog 9 (plainElem Try.prog 24) b nm' D')
    (hc : (mc' = none ∧ E' = .map []) ∨ ∃ b, mc' = some b ∧ F' b ∧ w'.ownsMap Try.prog 9 rawElem b nm' E')
    (hD : (D' = D ∧ bs R' = bs (K k0)) ∨ (D' = D.put (.string k0) (.lit (.int .u64 (bs R'))) ∧ 0 < bs R'))
    (hE : (cl R' = [] ∧ E' = E.del (.string k0)) ∨ (cl R' ≠ [] ∧ E' = E.put (.string k0) (rawData loc.g loc.off (cl R').length loc.cap)))
    (hrow : cl R' ≠ [] → Row w' loc.g loc.off loc.cap (cl R') ∧ F' loc.g)
    (hoth : ∀ k, k ≠ k0 → cl (K k) ≠ [] → w'.heap[(sl k).g]? = w.heap[(sl k).g]?)
    (hap : ∀ k, k ≠ k0 → cl (K k) ≠ [] → cl R' ≠ [] → (sl k).g ≠ loc.g) (htwo : ∀ b, mb' = some b → mc' ≠ some b) :
    IsClock w' pb F' (upd K k0 R') nm' mb' mc' D' E' (upd sl k0 loc) := by
  have hrows : ∀ k, k ≠ k0 → cl (K k) ≠ [] → E'.atKey (.string k) .nil = E.atKey (.string k) .nil ∧ Row w' (sl k).g (sl k).off (sl k).cap (cl (K k)) ∧ F' (sl k).g := fun k hk hne => by
    obtain ⟨_, ⟨cur, hg, r⟩, hf⟩ := h.rows k hne
    refine ⟨?_, ⟨cur, (hoth k hk hne).trans hg, r⟩, hF _ hf⟩
    rcases hE with ⟨_, rfl⟩ | ⟨_, rfl⟩
    · exact atKey_del_other (str_ne hk) _
    · exact atKey_put_other (str_ne hk) _ _
  refine ⟨hst, hF _ h.fp, hbd, hb, hc, fun k => ?_, fun k => ?_, fun k => ?_, fun k hne => ?_, fun k k' h1 h2 hkk => ?_, htwo⟩
  · by_cases hk : k = k0
    · subst hk; rw [upd_same]; exact hR
    · rw [upd_other _ _ hk]; exact h.canon k
  · by_cases hk : k = k0
    · subst hk
      rw [upd_same]
      rcases hD with ⟨rfl, e⟩ | ⟨rfl, e⟩
      · rw [e]; exact h.bases k
      · exact ⟨atKey_put_same h.isMapD (keyLit _) _ _, by rw [has_put_same h.isMapD (keyLit _)]; simp [e]⟩
    · rw [upd_other _ _ hk]
      rcases hD with ⟨rfl, e⟩ | ⟨rfl, e⟩
      · exact h.bases k
      · rw [atKey_put_other (str_ne hk), has_put_other (str_ne hk)]; exact h.bases k
  · by_cases hk : k = k0
    · subst hk
      rw [upd_same]
      rcases hE with ⟨e, rfl⟩ | ⟨e, rfl⟩
      · rw [has_del_same, e]; rfl
      · rw [has_put_same h.isMapE (keyLit _)]; simp [e]
    · rw [upd_other _ _ hk]
      rcases hE with ⟨e, rfl⟩ | ⟨e, rfl⟩
      · rw [has_del_other (str_ne hk)]; exact h.clouds k
      · rw [has_put_other (str_ne hk)]; exact h.clouds k
  · by_cases hk : k = k0
    · subst hk
      rw [upd_same] at hne ⊢
      rw [upd_same]
      rcases hE with ⟨e, _⟩ | ⟨_, rfl⟩
      · exact absurd e hne
      · exact ⟨atKey_put_same h.isMapE (keyLit _) _ _, hrow hne⟩
    · rw [upd_other _ _ hk] at hne ⊢
      rw [upd_other _ _ hk]
      obtain ⟨a1, a2, a3⟩ := hrows k hk hne
      exact ⟨a1.trans (h.rows k hne).1, a2, a3⟩
  · by_cases hk : k = k0
    · subst hk
      have hk' : k' ≠ k := fun e => hkk e.symm
      rw [upd_same] at h1
      rw [upd_other _ _ hk'] at h2
      rw [upd_same, upd_other _ _ hk']
      exact fun e => hap k' hk' h2 h1 e.symm
    · rw [upd_other _ _ hk] at h1
      rw [upd_other _ _ hk]
      by_cases hk' : k' = k0
      · subst hk'
        rw [upd_same] at h2
        rw [upd_same]
        exact hap k hk h1 h2
      · rw [upd_other _ _ hk'] at h2
        rw [upd_other _ _ hk']
        exact h.apart k k' h1 h2 hkk
end Go.Proofs.Qxb6630298a
