/-
  CLOCKS WHOSE FOOTPRINT NO LONGER MATTERS (every later call writes new blocks alone); the contracts in those words; what the laws need of them.
-/
import Derived.Test.Qxb6630298aSameClock
import Derived.Test.Qxb6630298aDistinct
import Derived.Test.Qxb6630298aBytes
namespace Go.Proofs.Qxb6630298a
open Go.RowKit Go.Maps

abbrev Rng := List UInt8 → List (Int × Int)
def Held (w : World) (pb : Nat) (K : Rng) (nm : Nat) : Prop := ∃ F, Clock w pb F K nm
theorem Held.later {w w' : World} {pb : Nat} {K : Rng} {nm : Nat} (h : Held w pb K nm) (k : Kept none' w w') : Held w' pb K nm := by
  obtain ⟨F, h⟩ := h
  exact ⟨F, h.later k (fun _ _ h => h)⟩
theorem Held.canon {w : World} {pb : Nat} {K : Rng} {nm : Nat} (h : Held w pb K nm) (k : List UInt8) : canon 1 (K k) := by
  obtain ⟨F, h⟩ := h
  exact h.canon k
theorem Kept.then {a b c : World} (h : Kept none' a b) (k : Kept none' b c) : Kept none' a c := h.trans k (fun _ _ h => h)

theorem EvS.later {w w' : World} {V : Value} {L : List Evt} (h : EvS w V L) (k : Kept none' w w') : EvS w' V L := by
  obtain ⟨ao, n, c, e, hn, hr⟩ := h
  refine ⟨ao, n, c, e, hn, fun h => ?_⟩
  obtain ⟨g, off, e1, hg, hc⟩ := hr h
  exact ⟨g, off, e1, Nat.lt_of_lt_of_le hg k.size, fun i hi => ⟨k.cell (hc i hi).1 (fun h => h), k.cell (hc i hi).2.1 (fun h => h), k.cell (hc i hi).2.2 (fun h => h)⟩⟩

theorem nodup_len {S T : List (List UInt8)} (hn : S.Nodup) (hs : ∀ x ∈ S, x ∈ T) : S.length ≤ T.length := by
  induction S generalizing T with
  | nil => exact Nat.zero_le _
  | cons a S ih =>
    obtain ⟨h1, h2⟩ := List.nodup_cons.1 hn
    have ha := hs a (by simp)
    have := ih (T := T.erase a) h2 (fun x hx => (List.mem_erase_of_ne (fun e : x = a => h1 (by rw [← e]; exact hx))).2 (hs x (by simp [hx])))
    rw [List.length_erase_of_mem ha] at this
    have hp : 0 < T.length := List.length_pos_of_mem ha
    simp only [List.length_cons]
    omega

theorem mem_of_ne {lb : Int} {L : List (Int × Int)} (h : canon lb L) (hn : L ≠ []) : ∃ x, mem x L := by
  cases L with
  | nil => exact absurd rfl hn
  | cons p r => exact ⟨p.1, p, by simp, Int.le_refl _, h.2.1⟩
theorem nil_of_none {lb : Int} {L : List (Int × Int)} (h : canon lb L) (hn : ∀ x, ¬ mem x L) : L = [] :=
  Classical.byContradiction fun hne => by obtain ⟨x, hx⟩ := mem_of_ne h hne; exact hn x hx

/-- At most sc keys hold something. -/
def Sup (K : Rng) (sc : Nat) : Prop := ∀ S : List (List UInt8), S.Nodup → (∀ k ∈ S, K k ≠ []) → S.length ≤ sc
theorem Sup.of_cov {K : Rng} {L : List Evt} (hc : ∀ k, canon 1 (K k)) (hm : ∀ k x, mem x (K k) ↔ cov L k x) : Sup K L.length := fun S hn hs => by
  have := nodup_len (T := L.map (fun e => key e.1)) hn (fun k hk => by
    obtain ⟨x, hx⟩ := mem_of_ne (hc k) (hs k hk)
    obtain ⟨e, he, hk, _⟩ := (hm k x).1 hx
    exact List.mem_map.2 ⟨e, he, hk⟩)
  simpa using this
theorem Sup.less {K K' : Rng} {sc : Nat} (h : Sup K sc) (hc : ∀ k, canon 1 (K' k)) (hm : ∀ k x, mem x (K' k) → mem x (K k)) : Sup K' sc := fun S hn hs =>
  h S hn (fun k hk e => by
    obtain ⟨x, hx⟩ := mem_of_ne (hc k) (hs k hk)
    have := hm k x hx
    rw [e] at this
    exact mem_nil x this)
theorem Sup.mono {K : Rng} {sc sc' : Nat} (h : Sup K sc) (hl : sc ≤ sc') : Sup K sc' := fun S hn hs => Nat.le_trans (h S hn hs) hl

/-- The clock at pb was filled from L. -/
def Built (L : List Evt) (w : World) (pb : Nat) (K : Rng) : Prop := Held w pb K 4096 ∧ (∀ k x, mem x (K k) ↔ cov L k x) ∧ (∀ k, (K k).length ≤ 4096) ∧ Sup K 4096
/-- The clock at pu is what Without left. -/
def Diffed (Kc Ko : Rng) (m : Nat) (w : World) (pu : Nat) (Ku : Rng) : Prop := Held w pu Ku 1073741824 ∧ (∀ k x, mem x (Ku k) ↔ mem x (Kc k) ∧ ¬ mem x (Ko k)) ∧ (∀ k, (Ku k).length ≤ m) ∧ Sup Ku 4096
theorem Built.later {L : List Evt} {w w' : World} {pb : Nat} {K : Rng} (h : Built L w pb K) (k : Kept none' w w') : Built L w' pb K := ⟨h.1.later k, h.2⟩
theorem Diffed.later {Kc Ko : Rng} {m : Nat} {w w' : World} {pu : Nat} {Ku : Rng} (h : Diffed Kc Ko m w pu Ku) (k : Kept none' w w') : Diffed Kc Ko m w' pu Ku := ⟨h.1.later k, h.2⟩

/-- zzBuild. -/
theorem build' (V : Value) (L : List Evt) (w : World) (hV : EvS w V L) (hL : GoodE L) (hN : L.length ≤ 4096) :
    Calls Try.prog 6 #[V] w fun e w' => ∃ pb K, e = .returned (.pointer (some ⟨pb, 0, none⟩)) ∧ Kept none' w w' ∧ Built L w' pb K :=
  (zzBuild V L w hV hL hN).mono (fun e w' ⟨he, hk, K, hc, hm, hl⟩ => by
    rw [List.take_length] at hm
    exact ⟨_, K, he, hk, ⟨_, hc.mono (fun _ h => h) (fun k h => hc.bound k h) hN⟩, hm, fun k => Nat.le_trans (hl k) hN, (Sup.of_cov hc.canon hm).mono hN⟩)

/-- Without. -/
theorem without' (pc po : Nat) (Kc Ko : Rng) (nc no a b : Nat) (w : World) (hc : Held w pc Kc nc) (ho : Held w po Ko no) (hnc : nc ≤ 1073741824)
    (ha : ∀ k, (Kc k).length ≤ a) (hb : ∀ k, (Ko k).length ≤ b) (hab : a + b ≤ 65536) (hsup : Sup Kc 4096) :
    Calls Try.prog 7 #[.pointer (some ⟨pc, 0, none⟩), .pointer (some ⟨po, 0, none⟩)] w fun e w' => ∃ pu Ku, e = .returned (.pointer (some ⟨pu, 0, none⟩)) ∧ Kept none' w w' ∧ Diffed Kc Ko (a + b) w' pu Ku := by
  obtain ⟨Fc, hc⟩ := hc
  obtain ⟨Fo, ho⟩ := ho
  have hb30 : 4096 * (a + b) ≤ 1073741824 := by omega
  refine (without pc po Fc Fo Kc Ko nc no (a + b) 4096 w hc ho hnc (fun k => Nat.add_le_add (ha k) (hb k)) (by omega) hsup hb30 (by omega)).mono ?_
  rintro e w' ⟨pu, Fu, Ku, nu, he, hk, hcu, _, hnu, hm, hl⟩
  exact ⟨pu, Ku, he, hk, ⟨Fu, hcu.mono (fun _ h => h) (fun k h => hcu.bound k h) (by omega)⟩, hm, hl, hsup.less hcu.canon (fun k x h => ((hm k x).1 h).1)⟩

/-- zzSameClock at equal ranges. -/
theorem same' (pa pb : Nat) (Ka Kb : Rng) (na nb : Nat) (w : World) (ha : Held w pa Ka na) (hb : Held w pb Kb nb) (hna : na ≤ 1073741824) (hnb : nb ≤ 1073741824) (hl : ∀ k, (Ka k).length ≤ 1073741824) (he : ∀ k x, mem x (Ka k) ↔ mem x (Kb k)) :
    Calls Try.prog 16 #[.pointer (some ⟨pa, 0, none⟩), .pointer (some ⟨pb, 0, none⟩)] w fun e w' => e = .returned (.bool true) ∧ Kept none' w w' := by
  obtain rfl : Ka = Kb := funext fun k => canon_ext (ha.canon k) (hb.canon k) (he k)
  obtain ⟨Fa, ha⟩ := ha
  obtain ⟨Fb, hb⟩ := hb
  exact sameClock pa pb Fa Fb Ka na nb w ha hb hna hnb hl

theorem actorsH (pb : Nat) (K : Rng) (nm : Nat) (w : World) (hc : Held w pb K nm) (hnm : nm ≤ 1073741824) :
    Calls Try.prog 14 #[.pointer (some ⟨pb, 0, none⟩)] w fun e w' => ActorsPost K nm w e w' := by
  obtain ⟨F, hc⟩ := hc
  exact actors' pb F K nm w hc hnm
theorem rangesH (pb : Nat) (s : ByteArray) (K : Rng) (nm : Nat) (w : World) (hs : s.size ≤ maxLen) (hc : Held w pb K nm) (hN : (K (key s)).length ≤ 1099511627776) :
    Calls Try.prog 9 #[.pointer (some ⟨pb, 0, none⟩), .string s] w fun e w' => ∃ V, e = .returned V ∧ Kept none' w w' ∧ SpanS w' (fun _ => True) V (K (key s)) := by
  obtain ⟨F, hc⟩ := hc
  exact (zzRanges pb s F K nm w hs hc hN).mono (fun e w' ⟨V, h1, h2, h3⟩ => ⟨V, h1, h2, h3.mono (fun _ _ => trivial)⟩)
theorem held_new (w : World) : Held (w.alloc (.cells #[.map none, .map none] 44)) w.heap.size (fun _ => []) 0 := ⟨_, clock_new w⟩

/-- What the reading of the arguments tells of each event. -/
def WfE (L : List Evt) : Prop := ∀ e ∈ L, e.1.size ≤ maxLen ∧ 0 ≤ e.2.1 ∧ e.2.1 ≤ 18446744073709551615 ∧ 0 ≤ e.2.2 ∧ e.2.2 ≤ 18446744073709551615
theorem good_of {L : List Evt} (h : WfE L) (ho : ∀ t, t < L.length → (L.getD t evt0).2.1 ≤ (L.getD t evt0).2.2) : GoodE L := fun e he => by
  obtain ⟨t, ht, rfl⟩ := List.mem_iff_getElem.1 he
  obtain ⟨h1, h2, h3, h4, h5⟩ := h _ he
  have := ho t ht
  simp only [List.getD, List.getElem?_eq_getElem ht, Option.getD_some] at this
  exact ⟨h1, h2, this, h5⟩
end Go.Proofs.Qxb6630298a
