/-
  PLAIN LAWS: no Go in sight: the verdict of a list of levels, and the cells of a row of messages.
-/
import Derived.WalkKit
namespace Go.Proofs.Qxb6630391a
open Go.RowKit

theorem ret_int {k : IntKind} {a b : Int} (h : a = b) : Ending.returned (.int k a) = .returned (.int k b) := by rw [h]
theorem int_eq {k : IntKind} {a b : Int} (h : a = b) : Value.int k a = .int k b := by rw [h]

/-- The verdict of one level. -/
def sev (l : Int) : Int := if 4 ≤ l then 2 else if l = 3 then 1 else 0
/-- The worse of two verdicts. -/
def worse (a b : Int) : Int := if b < a then a else b
/-- The verdict of a list of levels. -/
def oc : List Int → Int
  | [] => 0
  | l :: r => worse (sev l) (oc r)

theorem sev_bd (l : Int) : 0 ≤ sev l ∧ sev l ≤ 2 := by
  unfold sev
  repeat' split
  all_goals omega
theorem oc_bd (ls : List Int) : 0 ≤ oc ls ∧ oc ls ≤ 2 := by
  induction ls with
  | nil => simp [oc]
  | cons l r ih => have := sev_bd l; simp only [oc, worse]; split <;> omega
theorem oc_append (a b : List Int) : oc (a ++ b) = worse (oc a) (oc b) := by
  induction a with
  | nil => have := oc_bd b; rw [List.nil_append, show oc [] = 0 from rfl]; unfold worse; split <;> omega
  | cons l r ih => 
    simp only [List.cons_append, oc, ih, worse]
    repeat' split
    all_goals omega
theorem oc_one (l : Int) : oc [l] = sev l := by have := sev_bd l; rw [oc, show oc [] = 0 from rfl]; unfold worse; split <;> omega
theorem worse_bd {a b : Int} : a ≤ worse a b ∧ b ≤ worse a b := by unfold worse; split <;> omega
theorem oc_ge (ls : List Int) (l : Int) (h : l ∈ ls) : sev l ≤ oc ls := by
  induction ls with
  | nil => simp at h
  | cons x r ih =>
    have := @worse_bd (sev x) (oc r)
    rcases List.mem_cons.1 h with rfl | h
    · simp only [oc]; omega
    · have := ih h; simp only [oc]; omega
/-- Some level reaches the verdict, or the list is empty and the verdict is pass. -/
theorem oc_hit (ls : List Int) : (ls = [] ∧ oc ls = 0) ∨ ∃ l ∈ ls, sev l = oc ls := by
  induction ls with
  | nil => exact .inl ⟨rfl, rfl⟩
  | cons x r ih =>
    refine .inr ?_
    by_cases hc : oc r < sev x
    · exact ⟨x, by simp, by simp [oc, worse, hc]⟩
    · rcases ih with ⟨rfl, h0⟩ | ⟨l, hl, he⟩
      · have := sev_bd x
        exact ⟨x, by simp, (oc_one x).symm⟩
      · exact ⟨l, by simp [hl], by simp [oc, worse, hc, he]⟩

theorem take_succ' (ls : List Int) (k : Nat) (h : k < ls.length) : ls.take (k + 1) = ls.take k ++ [ls.getD k 0] := by
  rw [List.take_succ_eq_append_getElem h]; simp [List.getD, h]

/-- One round of the verdict's loop. -/
theorem oc_step (ls : List Int) (k : Nat) (h : k < ls.length) : oc (ls.take (k + 1)) = worse (oc (ls.take k)) (sev (ls.getD k 0)) := by
  rw [take_succ' ls k h, oc_append, oc_one]
theorem oc_fail (ls : List Int) (k : Nat) (h : k < ls.length) (h4 : 4 ≤ ls.getD k 0) : oc ls = 2 := by
  have hm : ls.getD k 0 ∈ ls := by simp [List.getD, h]
  have h1 := oc_ge ls _ hm
  have h2 : sev (ls.getD k 0) = 2 := by unfold sev; rw [if_pos h4]
  have := oc_bd ls
  omega

theorem worse_warn {o : Int} (h : o ≤ 1) : worse o (sev 3) = 1 := by simp only [worse, sev]; simp; omega
theorem worse_pass {o l : Int} (h : 0 ≤ o) (h4 : ¬ 4 ≤ l) (h3 : ¬ l = 3) : worse o (sev l) = o := by unfold sev; rw [if_neg h4, if_neg h3]; unfold worse; split <;> omega

/-- Has one of the first k levels reached o? -/
def rch (ls : List Int) (o : Int) (k : Nat) : Bool := (ls.take k).any fun l => sev l == o
theorem rch_step (ls : List Int) (o : Int) (k : Nat) (h : k < ls.length) : rch ls o (k + 1) = (rch ls o k || (sev (ls.getD k 0) == o)) := by
  unfold rch; rw [take_succ' ls k h, List.any_append]; simp
theorem rch_all (ls : List Int) (h0 : ls ≠ []) : rch ls (oc ls) ls.length = true := by
  unfold rch
  rcases oc_hit ls with ⟨h, _⟩ | ⟨l, hl, he⟩
  · exact absurd h h0
  · rw [List.take_length, List.any_eq_true]; exact ⟨l, hl, by simp [he]⟩
theorem sev_le_at (ls : List Int) (k : Nat) (h : k < ls.length) : sev (ls.getD k 0) ≤ oc ls := oc_ge ls _ (by simp [List.getD, h])

/-- A message's cells: its level, its tag, no arguments. -/
def mcells (ms : List (Int × ByteArray)) : List Value := ms.flatMap fun m => [.int .i64 m.1, .string m.2, .map none]
theorem mcells_len (ms : List (Int × ByteArray)) : (mcells ms).length = ms.length * 3 := by
  induction ms with
  | nil => rfl
  | cons m r ih => simp [mcells] at ih ⊢; omega
theorem mcells_append (a b : List (Int × ByteArray)) : mcells (a ++ b) = mcells a ++ mcells b := by simp [mcells]
theorem mcells_get (ms : List (Int × ByteArray)) (k : Nat) (h : k < ms.length) :
    (mcells ms)[k * 3]? = some (.int .i64 (ms[k].1)) ∧ (mcells ms)[k * 3 + 1]? = some (.string (ms[k].2)) ∧ (mcells ms)[k * 3 + 2]? = some (.map none) := by
  induction ms generalizing k with
  | nil => simp at h
  | cons m r ih =>
    cases k with
    | zero => simp [mcells]
    | succ k =>
      have h' : k < r.length := by simpa using h
      have := ih k h'
      have e : mcells (m :: r) = .int .i64 m.1 :: .string m.2 :: .map none :: mcells r := by simp [mcells]
      rw [e, show (k + 1) * 3 = k * 3 + 3 from by omega]
      simpa using this

/-- Levels without a tag. -/
def bare (ls : List Int) : List (Int × ByteArray) := ls.map fun l => (l, ⟨#[]⟩)
theorem bare_fst (ls : List Int) : (bare ls).map (·.1) = ls := by simp [bare, Function.comp_def]
theorem bare_append (a b : List Int) : bare (a ++ b) = bare a ++ bare b := by simp [bare]
theorem bare_len (ls : List Int) : (bare ls).length = ls.length := by simp [bare]
theorem mcells_one (l : Int) (s : ByteArray) : mcells [(l, s)] = [.int .i64 l, .string s, .map none] := rfl
theorem bare_step (ls : List Int) (k : Nat) (h : k < ls.length) : mcells (bare (ls.take (k + 1))) = mcells (bare (ls.take k)) ++ [.int .i64 (ls.getD k 0), .string ⟨#[]⟩, .map none] := by
  rw [take_succ' ls k h, bare_append, mcells_append]; rfl
/-- The one new message's cells, at the head of a new block. -/
theorem news_cells (w : World) (l : Int) (s : ByteArray) (T : TypeId) : ∀ j u, ([.int .i64 l, .string s, .map none] : List Value)[j]? = some u →
    (w.alloc (.cells #[.int .i64 l, .string s, .map none] T)).cell? ((⟨w.heap.size, 0, none⟩ : Addr).add j) = some u := by
  intro j u hj
  match j, hj with
  | 0, hj => simp at hj; subst hj; simp [Addr.add]
  | 1, hj => simp at hj; subst hj; simp [Addr.add]
  | 2, hj => simp at hj; subst hj; simp [Addr.add]
theorem news_one (l : Int) (s : ByteArray) : ∀ u ∈ ([.int .i64 l, .string s, .map none] : List Value), u.oneCell' = true := by
  intro u hu
  simp at hu
  rcases hu with rfl | rfl | rfl <;> rfl
end Go.Proofs.Qxb6630391a
