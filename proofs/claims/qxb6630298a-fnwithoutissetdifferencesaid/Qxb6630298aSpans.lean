/-
  PLAIN LAWS: sorted spans that neither overlap nor touch. No Go in sight.
-/
import Derived.WalkKit
namespace Go.Proofs.Qxb6630298a

/-- Sorted spans from lb on, none empty, none touching the one before, none beyond the greatest uint64. -/
def canon : Int → List (Int × Int) → Prop
  | _, [] => True
  | lb, p :: r => lb ≤ p.1 ∧ p.1 ≤ p.2 ∧ p.2 ≤ 18446744073709551615 ∧ canon (p.2 + 2) r
/-- The counters that spans hold. -/
def mem (x : Int) (L : List (Int × Int)) : Prop := ∃ p ∈ L, p.1 ≤ x ∧ x ≤ p.2

theorem mem_nil (x : Int) : ¬ mem x [] := fun ⟨_, h, _⟩ => by simp at h
theorem mem_cons (x : Int) (p : Int × Int) (L : List (Int × Int)) : mem x (p :: L) ↔ (p.1 ≤ x ∧ x ≤ p.2) ∨ mem x L := by
  unfold mem
  constructor
  · rintro ⟨q, hq, h⟩
    rcases List.mem_cons.1 hq with rfl | hq
    · exact .inl h
    · exact .inr ⟨q, hq, h⟩
  · rintro (h | ⟨q, hq, h⟩)
    · exact ⟨p, by simp, h⟩
    · exact ⟨q, by simp [hq], h⟩
theorem mem_append (x : Int) (A B : List (Int × Int)) : mem x (A ++ B) ↔ mem x A ∨ mem x B := by
  induction A with
  | nil => simp [mem_nil]
  | cons p A ih => rw [List.cons_append, mem_cons, mem_cons, ih, or_assoc]

theorem canon_mono {lb lb' : Int} {L : List (Int × Int)} (h : lb' ≤ lb) (hc : canon lb L) : canon lb' L := by
  cases L with
  | nil => trivial
  | cons p r => exact ⟨by have := hc.1; omega, hc.2⟩
theorem mem_ge {lb x : Int} : ∀ {L : List (Int × Int)}, canon lb L → mem x L → lb ≤ x
  | [], _, h => absurd h (mem_nil x)
  | p :: r, hc, h => by
    rcases (mem_cons x p r).1 h with h | h
    · have := hc.1; omega
    · have := mem_ge hc.2.2.2 h
      have := hc.1; have := hc.2.1
      omega
theorem canon_ext : ∀ {lb : Int} {L L' : List (Int × Int)}, canon lb L → canon lb L' → (∀ x, mem x L ↔ mem x L') → L = L'
  | _, [], [], _, _, _ => rfl
  | _, [], p :: r, _, hc', h => absurd ((h p.1).2 ((mem_cons _ _ _).2 (.inl ⟨Int.le_refl _, hc'.2.1⟩))) (mem_nil _)
  | _, p :: r, [], hc, _, h => absurd ((h p.1).1 ((mem_cons _ _ _).2 (.inl ⟨Int.le_refl _, hc.2.1⟩))) (mem_nil _)
  | lb, p :: r, q :: t, hc, hc', h => by
    have hr := fun x => @mem_ge (p.2 + 2) x r hc.2.2.2
    have ht := fun x => @mem_ge (q.2 + 2) x t hc'.2.2.2
    have a1 := hc.2.1
    have a2 := hc'.2.1
    have e1 : p.1 = q.1 := by
      have h1 := (mem_cons _ _ _).1 ((h p.1).1 ((mem_cons _ _ _).2 (.inl ⟨Int.le_refl _, a1⟩)))
      have h2 := (mem_cons _ _ _).1 ((h q.1).2 ((mem_cons _ _ _).2 (.inl ⟨Int.le_refl _, a2⟩)))
      rcases h1 with h1 | h1 <;> rcases h2 with h2 | h2
      · omega
      · have := hr _ h2; omega
      · have := ht _ h1; omega
      · have := hr _ h2; have := ht _ h1; omega
    have e2 : p.2 = q.2 := by
      rcases Int.lt_trichotomy p.2 q.2 with hlt | heq | hgt
      · have h1 := (mem_cons _ _ _).1 ((h (p.2 + 1)).2 ((mem_cons _ _ _).2 (.inl ⟨by omega, by omega⟩)))
        rcases h1 with h1 | h1
        · omega
        · have := hr _ h1; omega
      · exact heq
      · have h1 := (mem_cons _ _ _).1 ((h (q.2 + 1)).1 ((mem_cons _ _ _).2 (.inl ⟨by omega, by omega⟩)))
        rcases h1 with h1 | h1
        · omega
        · have := ht _ h1; omega
    have epq : p = q := Prod.ext e1 e2
    subst epq
    congr 1
    refine canon_ext hc.2.2.2 hc'.2.2.2 fun x => ⟨fun hx => ?_, fun hx => ?_⟩
    · have := hr _ hx
      rcases (mem_cons _ _ _).1 ((h x).1 ((mem_cons _ _ _).2 (.inr hx))) with h1 | h1
      · omega
      · exact h1
    · have := ht _ hx
      rcases (mem_cons _ _ _).1 ((h x).2 ((mem_cons _ _ _).2 (.inr hx))) with h1 | h1
      · omega
      · exact h1
theorem canon_start {lb c : Int} {L : List (Int × Int)} (h : canon lb L) (hc : ∀ p ∈ L, c ≤ p.1) : canon c L := by
  cases L with
  | nil => trivial
  | cons p r => exact ⟨hc p (by simp), h.2⟩
theorem canon_nil_of {lb : Int} {L : List (Int × Int)} (h : canon lb L) (he : ∀ x, ¬ mem x L) : L = [] := by
  cases L with
  | nil => rfl
  | cons p r => exact absurd ((mem_cons _ _ _).2 (.inl ⟨Int.le_refl _, h.2.1⟩)) (he p.1)
theorem canon_bd {lb : Int} : ∀ {L : List (Int × Int)}, canon lb L → ∀ p ∈ L, lb ≤ p.1 ∧ p.1 ≤ p.2 ∧ p.2 ≤ 18446744073709551615
  | [], _, p, hp => by simp at hp
  | q :: r, h, p, hp => by
    rcases List.mem_cons.1 hp with rfl | hp
    · exact ⟨h.1, h.2.1, h.2.2.1⟩
    · have h1 := canon_bd h.2.2.2 p hp
      have := h.1; have := h.2.1
      exact ⟨by omega, h1.2⟩

/-- The merged ends. -/
def lo2 (lo : Int) : List (Int × Int) → Int
  | [] => lo
  | p :: _ => min lo p.1
def hi2 (hi : Int) (Mid : List (Int × Int)) : Int := Mid.foldl (fun h p => max h p.2) hi

theorem hi2_le (hi : Int) (Mid : List (Int × Int)) : hi ≤ hi2 hi Mid := by
  unfold hi2
  induction Mid generalizing hi with
  | nil => simp
  | cons p r ih => have := ih (max hi p.2); simp only [List.foldl_cons]; omega

/-- What is in the middle and the new span make one span. -/
theorem mid_mem {lb lo hi : Int} (hlh : lo ≤ hi) : ∀ {Mid S : List (Int × Int)}, canon lb (Mid ++ S) → (∀ p ∈ Mid, lo - 1 ≤ p.2 ∧ p.1 - 1 ≤ hi) → ∀ x, (lo2 lo Mid ≤ x ∧ x ≤ hi2 hi Mid) ↔ (mem x Mid ∨ lo ≤ x ∧ x ≤ hi)
  | [], S, _, _, x => by simp [lo2, hi2, mem_nil]
  | p :: r, S, hc, hm, x => by
    have h1 := hm p (by simp)
    have hp := hc.2.1
    -- the rest, with the span widened by p
    have hr : ∀ q ∈ r, (min lo p.1) - 1 ≤ q.2 ∧ q.1 - 1 ≤ max hi p.2 := fun q hq => by
      have := hm q (by simp [hq]); omega
    have ih := mid_mem (lo := min lo p.1) (hi := max hi p.2) (by omega) hc.2.2.2 hr x
    have elo : lo2 (min lo p.1) r = min lo p.1 := by
      cases r with
      | nil => rfl
      | cons q t => have := hc.2.2.2.1; simp only [lo2]; omega
    rw [elo] at ih
    have ehi : hi2 hi (p :: r) = hi2 (max hi p.2) r := rfl
    rw [show lo2 lo (p :: r) = min lo p.1 from rfl, ehi, ih, mem_cons]
    constructor
    · rintro (h | h)
      · exact .inl (.inr h)
      · by_cases hx : lo ≤ x ∧ x ≤ hi
        · exact .inr hx
        · exact .inl (.inl (by omega))
    · rintro ((h | h) | h)
      · exact .inr (by omega)
      · exact .inl h
      · exact .inr (by omega)

theorem hi2_bd {lb hi c : Int} (hc2 : hi ≤ c) : ∀ {Mid S : List (Int × Int)}, canon lb (Mid ++ S) → (∀ p ∈ Mid, p.2 ≤ c) → hi2 hi Mid ≤ c
  | [], _, _, _ => by simpa [hi2] using hc2
  | p :: r, S, hc, hb => by
    have := hb p (by simp)
    exact hi2_bd (hi := max hi p.2) (by omega) hc.2.2.2 (fun q hq => hb q (by simp [hq]))
/-- All that lies behind the middle lies behind its greatest end. -/
theorem canon_behind {lb : Int} : ∀ {Mid S : List (Int × Int)}, canon lb (Mid ++ S) → ∀ p ∈ Mid, ∀ q ∈ S, p.2 + 2 ≤ q.1
  | [], _, _, p, hp, _, _ => by simp at hp
  | m :: r, S, hc, p, hp, q, hq => by
    rcases List.mem_cons.1 hp with rfl | hp
    · exact (canon_bd hc.2.2.2 q (by simp [hq])).1
    · exact canon_behind hc.2.2.2 p hp q hq
theorem canon_right {lb : Int} : ∀ {A S : List (Int × Int)}, canon lb (A ++ S) → ∃ c, canon c S
  | [], _, h => ⟨lb, h⟩
  | _ :: r, _, h => canon_right (A := r) h.2.2.2

/-- ADDING A SPAN: the spans before it, the one merged span, the spans behind it. -/
theorem add_core {lo hi : Int} (hlh : lo ≤ hi) (hM : hi ≤ 18446744073709551615) : ∀ {lb c : Int} {P Mid S : List (Int × Int)}, canon lb (P ++ (Mid ++ S)) → c ≤ lb → c ≤ lo →
    (∀ p ∈ P, p.2 < lo - 1) → (∀ p ∈ Mid, lo - 1 ≤ p.2 ∧ p.1 - 1 ≤ hi) → (∀ p ∈ S, hi < p.1 - 1) →
    canon c (P ++ (lo2 lo Mid, hi2 hi Mid) :: S) ∧ ∀ x, mem x (P ++ (lo2 lo Mid, hi2 hi Mid) :: S) ↔ (mem x (P ++ (Mid ++ S)) ∨ lo ≤ x ∧ x ≤ hi)
  | lb, c, [], Mid, S, hc, h1, h2, _, hm, hs => by
    rw [List.nil_append] at hc
    have hmm := mid_mem hlh hc hm
    have hle := hi2_le hi Mid
    have hl1 : c ≤ lo2 lo Mid := by
      cases Mid with
      | nil => exact h2
      | cons p r => have := hc.1; simp only [lo2]; omega
    have hl2 : lo2 lo Mid ≤ lo := by
      cases Mid with
      | nil => exact Int.le_refl _
      | cons p r => simp only [lo2]; omega
    have hbd : hi2 hi Mid ≤ 18446744073709551615 := hi2_bd hM hc (fun p hp => (canon_bd hc p (by simp [hp])).2.2)
    obtain ⟨d, hd⟩ := canon_right hc
    refine ⟨⟨hl1, by show lo2 lo Mid ≤ hi2 hi Mid; omega, hbd, canon_start hd fun q hq => ?_⟩, fun x => ?_⟩
    · have := hs q hq
      have h3 : hi2 hi Mid ≤ q.1 - 2 := hi2_bd (by omega) hc (fun p hp => by have := canon_behind hc p hp q hq; omega)
      show hi2 hi Mid + 2 ≤ q.1
      omega
    · rw [List.nil_append, List.nil_append, mem_cons, mem_append, hmm x]
      constructor
      · rintro ((h | h) | h)
        · exact .inl (.inl h)
        · exact .inr h
        · exact .inl (.inr h)
      · rintro ((h | h) | h)
        · exact .inl (.inl h)
        · exact .inr h
        · exact .inl (.inr h)
  | lb, c, p :: P, Mid, S, hc, h1, h2, hp, hm, hs => by
    have hpp := hp p (by simp)
    obtain ⟨k1, k2⟩ := add_core hlh hM (lb := p.2 + 2) (c := p.2 + 2) hc.2.2.2 (Int.le_refl _) (by omega) (fun q hq => hp q (by simp [hq])) hm hs
    refine ⟨⟨by have := hc.1; omega, hc.2.1, hc.2.2.1, k1⟩, fun x => ?_⟩
    rw [List.cons_append, List.cons_append, mem_cons, mem_cons, k2 x, or_assoc]

/-! ### base and cloud -/
/-- The base: where the first span starts at 1, its end. -/
def bs : List (Int × Int) → Int
  | [] => 0
  | p :: _ => if p.1 = 1 then p.2 else 0
/-- The cloud: the other spans. -/
def cl : List (Int × Int) → List (Int × Int)
  | [] => []
  | p :: r => if p.1 = 1 then r else p :: r
/-- The ranges. -/
def rng (b : Int) (C : List (Int × Int)) : List (Int × Int) := if 0 < b then (1, b) :: C else C
theorem rng_bs_cl {R : List (Int × Int)} (h : canon 1 R) : rng (bs R) (cl R) = R := by
  cases R with
  | nil => rfl
  | cons p r =>
    have := h.1; have := h.2.1
    unfold rng bs cl
    by_cases e : p.1 = 1
    · simp only [e, if_true]; rw [if_pos (by omega)]; congr 1; exact Prod.ext e.symm rfl
    · simp [e]
theorem bs_bd {R : List (Int × Int)} (h : canon 1 R) : 0 ≤ bs R ∧ bs R ≤ 18446744073709551615 := by
  cases R with
  | nil => simp [bs]
  | cons p r => have := h.1; have := h.2.1; have := h.2.2.1; simp only [bs]; split <;> omega
theorem cl_canon {R : List (Int × Int)} (h : canon 1 R) : canon (bs R + 2) (cl R) := by
  cases R with
  | nil => trivial
  | cons p r =>
    have := h.1
    unfold bs cl
    by_cases e : p.1 = 1
    · simp only [e, if_true]; exact h.2.2.2
    · simp only [e, if_false]; exact ⟨by omega, h.2⟩
theorem rng_canon {b : Int} {C : List (Int × Int)} (h0 : 0 ≤ b) (hM : b ≤ 18446744073709551615) (h : canon (b + 2) C) : canon 1 (rng b C) ∧ bs (rng b C) = b ∧ cl (rng b C) = C := by
  unfold rng
  by_cases hb : 0 < b
  · rw [if_pos hb]; exact ⟨⟨Int.le_refl _, by show (1 : Int) ≤ b; omega, hM, h⟩, by simp [bs], by simp [cl]⟩
  · rw [if_neg hb]
    have hb0 : b = 0 := by omega
    subst hb0
    refine ⟨canon_mono (by omega) h, ?_, ?_⟩
    · cases C with
      | nil => rfl
      | cons p r => have := h.1; simp only [bs]; rw [if_neg (by omega)]
    · cases C with
      | nil => rfl
      | cons p r => have := h.1; simp only [cl]; rw [if_neg (by omega)]
theorem rng_mem {b : Int} (C : List (Int × Int)) (x : Int) (h0 : 0 ≤ b) : mem x (rng b C) ↔ (1 ≤ x ∧ x ≤ b) ∨ mem x C := by
  unfold rng
  by_cases hb : 0 < b
  · rw [if_pos hb, mem_cons]
  · rw [if_neg hb]; constructor
    · exact .inr
    · rintro (h | h)
      · omega
      · exact h
end Go.Proofs.Qxb6630298a
