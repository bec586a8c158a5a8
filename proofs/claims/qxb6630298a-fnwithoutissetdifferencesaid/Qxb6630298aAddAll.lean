/-
  addSpan, both ways; ZZaddSpan.
-/
import Derived.Test.Qxb6630298aAdd
namespace Go.Proofs.Qxb6630298a
open Go.RowKit Go.Maps

theorem IsClock.mono {w : World} {pb : Nat} {F F' : Nat → Prop} {K : List UInt8 → List (Int × Int)} {nm nm' : Nat} {mb mc : Option Nat} {D E : DataW Unit} {sl : List UInt8 → Loc} (h : IsClock w pb F K nm mb mc D E sl) (hF : ∀ k, F k → F' k) (hb : ∀ k, F' k → k < w.heap.size) (hn : nm ≤ nm') : IsClock w pb F' K nm' mb mc D E sl :=
  ⟨h.struct, hF _ h.fp, hb, h.base.imp id (fun ⟨b, e, hf, ho⟩ => ⟨b, e, hF _ hf, ho.mono hn⟩), h.cloud.imp id (fun ⟨b, e, hf, ho⟩ => ⟨b, e, hF _ hf, ho.mono hn⟩), h.canon, h.bases, h.clouds, fun k hk => ⟨(h.rows k hk).1, (h.rows k hk).2.1, hF _ (h.rows k hk).2.2⟩, h.apart, h.two⟩
theorem Clock.mono {w : World} {pb : Nat} {F F' : Nat → Prop} {K : List UInt8 → List (Int × Int)} {nm nm' : Nat} (h : Clock w pb F K nm) (hF : ∀ k, F k → F' k) (hb : ∀ k, F' k → k < w.heap.size) (hn : nm ≤ nm') : Clock w pb F' K nm' := by
  obtain ⟨mb, mc, D, E, sl, h⟩ := h
  exact ⟨mb, mc, D, E, sl, h.mono hF hb hn⟩
theorem upd_self {α : Type} (f : List UInt8 → α) (k0 : List UInt8) : upd f k0 (f k0) = f := by
  funext k
  unfold upd
  split
  · next h => rw [h]
  · rfl

set_option maxHeartbeats 1600000 in
theorem add_none (pb : Nat) (s : ByteArray) (lo hi : Int) (F : Nat → Prop) (K : List UInt8 → List (Int × Int)) (nm : Nat) (mb mc : Option Nat) (D E : DataW Unit) (sl : List UInt8 → Loc) (w : World)
    (hs : s.size ≤ maxLen) (hc : IsClock w pb F K nm mb mc D E sl) (hb : hi ≤ bs (K (key s))) :
    Calls Try.prog 20 #[.pointer (some ⟨pb, 0, none⟩), .string s, .agg #[.int .u64 lo, .int .u64 hi]] w fun e w' => AddPost pb s lo hi F K nm w e w' := by
  have k1 : Kept none' w (w.alloc (.cells #[.int .u64 lo, .int .u64 hi] 38)) := (Kept.refl _ _).alloc _
  have hc1 := hc.later k1 (fun _ _ h => h)
  have c0 := (cell_struct hc1.struct).1
  have hl1 := hc1.lookB hs
  have HC1 := (show Hid _ from hc1)
  have HC := (show Hid _ from hc)
  obtain ⟨b, hbe⟩ : ∃ b, b = bs (K (key s)) := ⟨_, rfl⟩
  rw [← hbe] at hl1 hb
  have HB : Hid (b = bs (K (key s))) := hbe
  clear hc1 hc k1 hbe
  go_enter Try.func20, Try.ntmps20
  go_wp2_with fail
  go_end0
  have hcan := HC.out.canon (key s)
  refine ⟨rfl, (Kept.refl _ _).alloc _, K (key s), hcan, fun x => ⟨.inl, fun h => h.elim id (fun ⟨h1, h2, h3⟩ => ?_)⟩, Nat.le_succ _, ?_⟩
  · have hbd := bs_bd hcan
    have := (rng_mem (b := bs (K (key s))) (cl (K (key s))) x hbd.1).2 (.inl ⟨h1, by have := HB.out; omega⟩)
    rwa [rng_bs_cl hcan] at this
  · rw [upd_self]
    refine ⟨_, _, _, _, _, HC1.out.mono (fun _ => .inl) (fun k h => h.elim (HC1.out.bound k) (fun h => h.2)) (Nat.le_succ _)⟩

/-- addSpan. -/
theorem addSpan (pb : Nat) (s : ByteArray) (lo hi : Int) (F : Nat → Prop) (K : List UInt8 → List (Int × Int)) (nm : Nat) (w : World)
    (hs : s.size ≤ maxLen) (hlo : 0 ≤ lo) (hlh : lo ≤ hi) (hhi : hi ≤ 18446744073709551615) (hc : Clock w pb F K nm) (hN : (K (key s)).length ≤ 1099511627776) (hnm : nm < 1099511627776) :
    Calls Try.prog 20 #[.pointer (some ⟨pb, 0, none⟩), .string s, .agg #[.int .u64 lo, .int .u64 hi]] w fun e w' => AddPost pb s lo hi F K nm w e w' := by
  obtain ⟨mb, mc, D, E, sl, hc⟩ := hc
  by_cases hb : hi ≤ bs (K (key s))
  · exact add_none pb s lo hi F K nm mb mc D E sl w hs hc hb
  · exact add_some pb s lo hi F K nm mb mc D E sl w hs hlo hlh hhi hc hN hnm (by omega)

set_option maxHeartbeats 800000 in
theorem zzAddSpan (pb : Nat) (s : ByteArray) (lo hi : Int) (F : Nat → Prop) (K : List UInt8 → List (Int × Int)) (nm : Nat) (w : World)
    (hs : s.size ≤ maxLen) (hlo : 0 ≤ lo) (hlh : lo ≤ hi) (hhi : hi ≤ 18446744073709551615) (hc : Clock w pb F K nm) (hN : (K (key s)).length ≤ 1099511627776) (hnm : nm < 1099511627776) :
    Calls Try.prog 17 #[.pointer (some ⟨pb, 0, none⟩), .string s, .int .u64 lo, .int .u64 hi] w fun e w' => AddPost pb s lo hi F K nm w e w' := by
  have HC := (show Hid _ from hc)
  clear hc
  go_enter Try.func17, Try.ntmps17
  go_wp2_with (go_at_call 20; refine (addSpan pb s lo hi F K nm w hs hlo hlh hhi HC.out hN hnm).mono ?_)
  intro e w' h
  obtain ⟨rfl, h⟩ := h
  go_wp2_with fail
  go_end0
  exact ⟨rfl, h⟩
end Go.Proofs.Qxb6630298a
