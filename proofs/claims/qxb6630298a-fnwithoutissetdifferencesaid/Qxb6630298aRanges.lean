/-
  THE WALKS of ranges and ZZranges.
-/
import Derived.Test.Qxb6630298aVars
import Derived.Deep.AppendSrc
namespace Go.Proofs.Qxb6630298a
open Go.RowKit Go.Maps

theorem wpList_append_nil {P : Program} (w : World) {ops : Array Oper} {rest : List Oper} {o : Oper} {a : Act} {Q : Exit → Act → World → Prop}
    (hg : o.guard = none) (s x : Operand) (t : TypeId) (hop : o.op = Op.call { callee := Callee.builtin Builtin.append, args := #[s, x], argTypes := #[t, t] })
    (e : TypeId) (i : TypeInfo) (h1 : P.underlying t = some (.slice e)) (h2 : P.info? e = some i)
    (b off n cap : Nat) (hs : a.eval s = .slice (some ⟨b, off, none⟩) n cap) (hx : a.eval x = .slice none 0 0) (hn : n ≤ cap)
    (h : wpList P ops Q rest (a.put o.dst (.slice (some ⟨b, off, none⟩) n cap)) w) : wpList P ops Q (o :: rest) a w := by
  refine wpList_plain hg fun K hK' => ?_
  have hrun := run_append_room_src (P := P) w t t o.type e i h1 h2 b off n cap (.slice none 0 0) 0 [] (Src.ofNil w h1 0) hn (fun j hj => by simp at hj) (fun j hj => by simp at hj)
  unfold Oper.wp
  simp [execOp, hop, resolve, invoke, builtin, hs, hx, hrun, Result.andThen]
  exact hK' _ _ h

/-- A slice of spans that reads as L; its row lies where P says. -/
def SpanS (w : World) (P : Nat → Prop) (V : Value) (L : List (Int × Int)) : Prop :=
  ∃ ao n c, V = .slice ao n c ∧ n = L.length ∧ n ≤ c ∧ (L ≠ [] → ∃ g off, ao = some ⟨g, off, none⟩ ∧ Row w g off c L ∧ P g)
theorem SpanS.later {w w' : World} {P G : Nat → Prop} {V : Value} {L : List (Int × Int)} (h : SpanS w P V L) (k : Kept G w w') (hG : ∀ i, i < w.heap.size → P i → ¬ G i) : SpanS w' P V L := by
  obtain ⟨ao, n, c, e, hn, hc, hr⟩ := h
  refine ⟨ao, n, c, e, hn, hc, fun h => ?_⟩
  obtain ⟨g, off, e1, h1, h2⟩ := hr h
  exact ⟨g, off, e1, h1.later k (hG g h1.lt h2), h2⟩

theorem rng_zero (C : List (Int × Int)) : rng 0 C = C := by simp [rng]
theorem rng_pos {b : Int} (h : 0 < b) (C : List (Int × Int)) : rng b C = (1, b) :: C := by simp [rng, h]

theorem new1 (W : World) (b : Int) : Row (W.alloc (.cells #[.int .u64 1, .int .u64 b] 38)) W.heap.size 0 1 [(1, b)] := by
  refine ⟨#[.int .u64 1, .int .u64 b], heap_alloc_new W _, by simp, by simp, by unfold maxLen; omega, fun i hi => ?_⟩
  have : i = 0 := by simpa using hi
  subst this
  exact ⟨rfl, rfl⟩

/-- What ranges leaves. -/
def RangesPost (F : Nat → Prop) (L : List (Int × Int)) (w : World) (e : Ending) (w' : World) : Prop :=
  ∃ V, e = .returned V ∧ Kept none' w w' ∧ SpanS w' (fun g => F g ∨ w.heap.size ≤ g) V L

set_option maxHeartbeats 3200000 in
theorem ranges (pb : Nat) (s : ByteArray) (F : Nat → Prop) (K : List UInt8 → List (Int × Int)) (nm : Nat) (w : World) (hs : s.size ≤ maxLen) (hc : Clock w pb F K nm) (hN : (K (key s)).length ≤ 1099511627776) :
    Calls Try.prog 19 #[.pointer (some ⟨pb, 0, none⟩), .string s] w fun e w' => RangesPost F (K (key s)) w e w' := by
  obtain ⟨mb, mc, D, E, sl, hc⟩ := hc
  obtain ⟨c0, c1, _⟩ := cell_struct hc.struct
  have hl1 := hc.lookB hs
  have hl2 := hc.lookC hs
  obtain ⟨ao, cc, hV, hcc, hcc2, hn1, hn2, hn3⟩ := hc.slice (key s)
  have hcan := hc.canon (key s)
  have hbd := bs_bd hcan
  obtain ⟨b, hbe⟩ : ∃ b, b = bs (K (key s)) := ⟨_, rfl⟩
  obtain ⟨C, hC⟩ : ∃ C, C = cl (K (key s)) := ⟨_, rfl⟩
  obtain ⟨n, hn⟩ : ∃ n, n = C.length := ⟨_, rfl⟩
  have hn40 : n ≤ 1099511627776 := by have := cl_length (K (key s)); rw [hn, hC]; omega
  have hK : K (key s) = rng b C := by rw [hbe, hC, rng_bs_cl hcan]
  have hrow : C ≠ [] → Row w (sl (key s)).g (sl (key s)).off (sl (key s)).cap C ∧ F (sl (key s)).g := fun h => by rw [hC] at h ⊢; exact (hc.rows _ h).2
  rw [hV] at hl2
  rw [← hbe] at hl1 hbd
  rw [← hC] at hl2 hcc hn2 hn3
  rw [← hn] at hl2 hcc
  have HK : Hid (K (key s) = rng b C) := hK
  have HR : Hid (C ≠ [] → ao = some ⟨(sl (key s)).g, (sl (key s)).off, none⟩ ∧ cc = (sl (key s)).cap ∧ Row w (sl (key s)).g (sl (key s)).off (sl (key s)).cap C ∧ F (sl (key s)).g) := fun h => ⟨(hn2 (hn3 h)).1, (hn2 (hn3 h)).2.1, hrow h⟩
  have HN : Hid (C = [] → ao = none ∧ n = 0 ∧ cc = 0) := fun h => by
    have : ao = none := by
      by_cases h' : ao = none
      · exact h'
      · exact absurd h (hn2 h').2.2
    exact ⟨this, by rw [hn, h]; rfl, hn1 this⟩
  have HNe : Hid (n = C.length) := hn
  obtain ⟨i0, hi0, hz0, hz1, hz2⟩ := info_parts Try.info38
  have hb0 := hbd.1
  clear hc hV hcan hbe hC hn hK hrow hn1 hn2 hn3 hbd hcc2
  by_cases hb : 0 < b
  · by_cases hCe : C = []
    · obtain ⟨rfl, rfl, rfl⟩ := HN.out hCe
      have HCe : Hid (C = []) := hCe
      clear hCe
      go_enter Try.func19, Try.ntmps19
      go_wp2_with (at_builtin; refine wpList_append_nil _ rfl (.tmp 23) (.tmp 24) 32 rfl 38 i0 Try.underlying32 hi0 w.heap.size 0 1 1 rfl rfl (by omega) ?_)
      go_wp2_with fail
      go_ret
      refine ⟨_, rfl, (Kept.refl _ _).alloc _, some ⟨w.heap.size, 0, none⟩, 1, 1, rfl, ?_, Nat.le_refl _, fun _ => ⟨w.heap.size, 0, rfl, ?_, .inr (Nat.le_refl _)⟩⟩
      · rw [HK.out, rng_pos hb, HCe.out]; rfl
      · rw [HK.out, rng_pos hb, HCe.out]; exact new1 w b
    · obtain ⟨hao, hcap, hrow, hF⟩ := HR.out hCe
      have hr1 := hrow.later ((Kept.refl none' w).alloc (.cells #[.int .u64 1, .int .u64 b] 38)) (fun h => h)
      obtain ⟨g, hg⟩ : ∃ g, g = (sl (key s)).g := ⟨_, rfl⟩
      obtain ⟨off, hoff⟩ : ∃ off, off = (sl (key s)).off := ⟨_, rfl⟩
      rw [← hg, ← hoff] at hao hr1
      rw [← hcap] at hr1
      have HR1 : Hid (Row (w.alloc (.cells #[.int .u64 1, .int .u64 b] 38)) g off cc C) := hr1
      have hn0 : 0 < n := by rw [HNe.out]; exact List.length_pos_iff.2 hCe
      have hful : 1 < 1 + n := by omega
      subst hao
      clear hCe hrow hF hcap hg hoff hr1
      go_enter Try.func19, Try.ntmps19
      go_wp2_with (at_builtin; refine wpList_append_grows _ rfl (.tmp 23) (.tmp 24) 32 rfl 38 i0 _ 2 16 Try.underlying32 hi0 hz0 hz1 hz2 rfl (by decide) (some ⟨w.heap.size, 0, none⟩) 1 1 (flat [(1, b)]) rfl (fun h => by cases h) rfl (fun b' e j u hu => by cases e; rw [Addr.add_lit]; exact flat_cells (new1 w b) j u hu) ⟨g, off, none⟩ n cc (flat C) rfl (by rw [flat_length, HNe.out]) (fun j u hu => by rw [Addr.add_lit]; exact flat_cells HR1.out j u hu) (flat_one _) hful (by unfold maxLen; omega) (by omega) ?_)
      intro v' w' ho' hg'
      rw [← flat_append] at ho'
      obtain ⟨g', c', rfl, hb', hr'⟩ := row_of_own ho' (by simp [HNe.out]; omega) (by omega)
      have hk : Kept none' w w' := ((Kept.refl none' w).alloc _).grown hg' (fun k e => by simp at e)
      have HR' : Hid (Row w' g' 0 c' ([(1, b)] ++ C)) := hr'
      have HKK : Hid (Kept none' w w') := hk
      clear ho' hg' hr' hk
      go_wp2_with fail
      go_ret
      have hlen : (K (key s)).length = 1 + n := by rw [HK.out, rng_pos hb, List.length_cons, HNe.out]; omega
      refine ⟨_, rfl, HKK.out, some ⟨g', 0, none⟩, 1 + n, c', rfl, hlen.symm, ?_, fun _ => ⟨g', 0, rfl, ?_, .inr (by omega)⟩⟩
      · obtain ⟨_, _, _, h, _⟩ := HR'.out
        simp [← HNe.out] at h
        omega
      · rw [HK.out, rng_pos hb]; exact HR'.out
  · have hb' : b = 0 := by omega
    subst hb'
    clear hb
    go_enter Try.func19, Try.ntmps19
    go_wp2_with fail
    go_ret
    refine ⟨_, rfl, Kept.refl _ _, ao, n, cc, rfl, by rw [HK.out, rng_zero, HNe.out], hcc, fun h => ?_⟩
    rw [HK.out, rng_zero] at h ⊢
    obtain ⟨e1, e2, hr, hF⟩ := HR.out h
    exact ⟨_, _, e1, by rw [e2]; exact hr, .inl hF⟩

set_option maxHeartbeats 800000 in
theorem zzRanges (pb : Nat) (s : ByteArray) (F : Nat → Prop) (K : List UInt8 → List (Int × Int)) (nm : Nat) (w : World) (hs : s.size ≤ maxLen) (hc : Clock w pb F K nm) (hN : (K (key s)).length ≤ 1099511627776) :
    Calls Try.prog 9 #[.pointer (some ⟨pb, 0, none⟩), .string s] w fun e w' => RangesPost F (K (key s)) w e w' := by
  have HC := (show Hid _ from hc)
  clear hc
  go_enter Try.func9, Try.ntmps9
  go_wp2_with (go_at_call 19; refine (ranges pb s F K nm w hs HC.out hN).mono ?_)
  rintro e w' ⟨V, rfl, h⟩
  go_wp2_with fail
  go_ret
  exact ⟨V, rfl, h⟩
end Go.Proofs.Qxb6630298a
