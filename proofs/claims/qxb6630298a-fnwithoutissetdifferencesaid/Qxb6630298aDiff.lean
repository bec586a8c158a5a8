/-
  PLAIN LAWS: one sorted list of spans less another, span by span. No Go in sight.
-/
import Derived.Test.Qxb6630298aSpans
namespace Go.Proofs.Qxb6630298a

theorem canon_order {lb : Int} : ∀ {L : List (Int × Int)}, canon lb L → ∀ i j, i < j → j < L.length → (L.getD i (0, 0)).2 + 2 ≤ (L.getD j (0, 0)).1
  | [], _, _, _, _, h => by simp at h
  | p :: r, hc, 0, j + 1, _, h => by
    have hj : j < r.length := by simpa using h
    have hm : r.getD j (0, 0) ∈ r := by simp [List.getD, hj]
    have := canon_bd hc.2.2.2 _ hm
    simp only [List.getD_cons_zero, List.getD_cons_succ]
    omega
  | p :: r, hc, i + 1, j + 1, hij, h => by
    simp only [List.getD_cons_succ]
    exact canon_order hc.2.2.2 i j (by omega) (by simpa using h)
theorem getD_mem {L : List (Int × Int)} {i : Nat} (h : i < L.length) : L.getD i (0, 0) ∈ L := by simp [List.getD, h]
theorem mem_at {x : Int} {L : List (Int × Int)} : mem x L ↔ ∃ k, k < L.length ∧ (L.getD k (0, 0)).1 ≤ x ∧ x ≤ (L.getD k (0, 0)).2 := by
  constructor
  · rintro ⟨p, hp, h⟩
    obtain ⟨k, hk, rfl⟩ := List.mem_iff_getElem.1 hp
    exact ⟨k, hk, by simpa [List.getD, hk] using h⟩
  · rintro ⟨k, hk, h⟩
    exact ⟨_, getD_mem hk, h⟩
theorem mem_take_succ {x : Int} {L : List (Int × Int)} {i : Nat} (h : i < L.length) : mem x (L.take (i + 1)) ↔ mem x (L.take i) ∨ ((L.getD i (0, 0)).1 ≤ x ∧ x ≤ (L.getD i (0, 0)).2) := by
  have e : L.take (i + 1) = L.take i ++ [L.getD i (0, 0)] := by
    rw [List.take_add_one, List.getD, List.getElem?_eq_getElem h]
    rfl
  rw [e, mem_append, mem_cons]
  simp [mem_nil]

/-- Between the spans passed and the next one there is none. -/
theorem gap {Ro : List (Int × Int)} (hc : canon 1 Ro) {lo x : Int} {j : Nat} (h1 : ∀ k, k < j → k < Ro.length → (Ro.getD k (0, 0)).2 < lo) (hx : lo ≤ x) (h2 : j < Ro.length → x < (Ro.getD j (0, 0)).1) : ¬ mem x Ro := by
  rw [mem_at]
  rintro ⟨k, hk, h3, h4⟩
  by_cases h : k < j
  · have := h1 k h hk; omega
  · by_cases e : k = j
    · subst e; have := h2 hk; omega
    · have := canon_order hc j k (by omega) hk
      have := h2 (by omega)
      have := canon_bd hc _ (getD_mem (show j < Ro.length by omega))
      omega

section
variable {Rc Ro R R' : List (Int × Int)} {i j : Nat} {lo : Int}

/-- A piece ahead of the next span of Ro has been added. -/
theorem diff_piece (hc : canon 1 Ro) (hcc : canon 1 Rc) (hi : i < Rc.length) (h1 : ∀ k, k < j → k < Ro.length → (Ro.getD k (0, 0)).2 < lo) (hsl : (Rc.getD i (0, 0)).1 ≤ lo)
    (hm : ∀ x, mem x R ↔ (mem x (Rc.take i) ∨ ((Rc.getD i (0, 0)).1 ≤ x ∧ x < lo)) ∧ ¬ mem x Ro) (ha : ∀ x, mem x R' ↔ mem x R ∨ (1 ≤ x ∧ lo ≤ x ∧ x ≤ (Ro.getD j (0, 0)).1 - 1)) (hlt : lo < (Ro.getD j (0, 0)).1) :
    ∀ x, mem x R' ↔ (mem x (Rc.take i) ∨ ((Rc.getD i (0, 0)).1 ≤ x ∧ x < (Ro.getD j (0, 0)).1)) ∧ ¬ mem x Ro := by
  intro x
  have hb := canon_bd hcc _ (getD_mem hi)
  rw [ha, hm]
  constructor
  · rintro (⟨h | h, hn⟩ | ⟨_, h2, h3⟩)
    · exact ⟨.inl h, hn⟩
    · exact ⟨.inr ⟨h.1, by omega⟩, hn⟩
    · exact ⟨.inr ⟨by omega, by omega⟩, gap hc h1 h2 (fun _ => by omega)⟩
  · rintro ⟨h | h, hn⟩
    · exact .inl ⟨.inl h, hn⟩
    · by_cases hx : x < lo
      · exact .inl ⟨.inr ⟨h.1, hx⟩, hn⟩
      · exact .inr ⟨by omega, by omega, by omega⟩
/-- The next span of Ro reaches as far as ours. -/
theorem diff_covered {m : Int} (hi : i < Rc.length) (hj : j < Ro.length) (hm : ∀ x, mem x R ↔ (mem x (Rc.take i) ∨ ((Rc.getD i (0, 0)).1 ≤ x ∧ x < m)) ∧ ¬ mem x Ro) (h1 : (Ro.getD j (0, 0)).1 ≤ m) (hms : m ≤ (Rc.getD i (0, 0)).2 + 1) (h2 : (Rc.getD i (0, 0)).2 ≤ (Ro.getD j (0, 0)).2) :
    ∀ x, mem x R ↔ mem x (Rc.take (i + 1)) ∧ ¬ mem x Ro := by
  intro x
  rw [hm, mem_take_succ hi]
  constructor
  · rintro ⟨h | h, hn⟩
    · exact ⟨.inl h, hn⟩
    · exact ⟨.inr ⟨h.1, by omega⟩, hn⟩
  · rintro ⟨h | h, hn⟩
    · exact ⟨.inl h, hn⟩
    · refine ⟨.inr ⟨h.1, ?_⟩, hn⟩
      by_cases hx : x < m
      · exact hx
      · exact absurd (mem_at.2 ⟨j, hj, by omega, by omega⟩) hn
/-- .. or ends within ours. -/
theorem diff_next {m : Int} (hj : j < Ro.length) (hm : ∀ x, mem x R ↔ (mem x (Rc.take i) ∨ ((Rc.getD i (0, 0)).1 ≤ x ∧ x < m)) ∧ ¬ mem x Ro) (h1 : (Ro.getD j (0, 0)).1 ≤ m) (hmo : m ≤ (Ro.getD j (0, 0)).2 + 1) :
    ∀ x, mem x R ↔ (mem x (Rc.take i) ∨ ((Rc.getD i (0, 0)).1 ≤ x ∧ x < (Ro.getD j (0, 0)).2 + 1)) ∧ ¬ mem x Ro := by
  intro x
  rw [hm]
  constructor
  · rintro ⟨h | h, hn⟩
    · exact ⟨.inl h, hn⟩
    · exact ⟨.inr ⟨h.1, by omega⟩, hn⟩
  · rintro ⟨h | h, hn⟩
    · exact ⟨.inl h, hn⟩
    · refine ⟨.inr ⟨h.1, ?_⟩, hn⟩
      by_cases hx : x < m
      · exact hx
      · exact absurd (mem_at.2 ⟨j, hj, by omega, by omega⟩) hn
/-- The last piece of ours has been added. -/
theorem diff_last (hc : canon 1 Ro) (hcc : canon 1 Rc) (hi : i < Rc.length) (h1 : ∀ k, k < j → k < Ro.length → (Ro.getD k (0, 0)).2 < lo) (hsl : (Rc.getD i (0, 0)).1 ≤ lo) (hlh : lo ≤ (Rc.getD i (0, 0)).2)
    (hm : ∀ x, mem x R ↔ (mem x (Rc.take i) ∨ ((Rc.getD i (0, 0)).1 ≤ x ∧ x < lo)) ∧ ¬ mem x Ro) (ha : ∀ x, mem x R' ↔ mem x R ∨ (1 ≤ x ∧ lo ≤ x ∧ x ≤ (Rc.getD i (0, 0)).2)) (hend : j < Ro.length → (Rc.getD i (0, 0)).2 < (Ro.getD j (0, 0)).1) :
    ∀ x, mem x R' ↔ mem x (Rc.take (i + 1)) ∧ ¬ mem x Ro := by
  intro x
  have hb := canon_bd hcc _ (getD_mem hi)
  rw [ha, hm, mem_take_succ hi]
  constructor
  · rintro (⟨h | h, hn⟩ | ⟨_, h2, h3⟩)
    · exact ⟨.inl h, hn⟩
    · exact ⟨.inr ⟨h.1, by omega⟩, hn⟩
    · exact ⟨.inr ⟨by omega, h3⟩, gap hc h1 h2 (fun hj => by have := hend hj; omega)⟩
  · rintro ⟨h | h, hn⟩
    · exact .inl ⟨.inl h, hn⟩
    · by_cases hx : x < lo
      · exact .inl ⟨.inr ⟨h.1, hx⟩, hn⟩
      · exact .inr ⟨by omega, by omega, h.2⟩
end
end Go.Proofs.Qxb6630298a
