/-
  THE CLOCK IN MEMORY: a struct of two maps; the second one's elements are slices of spans, each key's in a row of its own. What stays while other blocks turn.
-/
import Derived.Test.Qxb6630298aRows
import Derived.Test.Qxb6630298aSpans
import Derived.Maps.OwnSet
import Derived.Maps.Ext
import Derived.WalkSpells
import Derived.Deep.Draws
import Derived.StringKeys
namespace Go.Proofs.Qxb6630298a
open Go.RowKit Go.Maps

/-- All blocks outside F are as they were; the streams too; no block has gone. -/
structure Kept (F : Nat → Prop) (w w' : World) : Prop where
  os : w'.os = w.os
  tape : w'.tape = w.tape
  output : w'.output = w.output
  size : w.heap.size ≤ w'.heap.size
  block : ∀ k, k < w.heap.size → ¬ F k → w'.heap[k]? = w.heap[k]?
/-- Nothing that was there has turned. -/
abbrev none' : Nat → Prop := fun _ => False

theorem Kept.refl (F : Nat → Prop) (w : World) : Kept F w w := ⟨rfl, rfl, rfl, Nat.le_refl _, fun _ _ _ => rfl⟩
theorem Kept.trans {F : Nat → Prop} {a b c : World} (h : Kept F a b) {G : Nat → Prop} (k : Kept G b c) (hG : ∀ i, i < a.heap.size → G i → F i) : Kept F a c :=
  ⟨k.os.trans h.os, k.tape.trans h.tape, k.output.trans h.output, Nat.le_trans h.size k.size, fun i hi hn => (k.block i (Nat.lt_of_lt_of_le hi h.size) (fun hg => hn (hG i hi hg))).trans (h.block i hi hn)⟩
theorem Kept.mono {F G : Nat → Prop} {a b : World} (h : Kept F a b) (hG : ∀ i, i < a.heap.size → F i → G i) : Kept G a b :=
  ⟨h.os, h.tape, h.output, h.size, fun i hi hn => h.block i hi (fun hf => hn (hG i hi hf))⟩
theorem Kept.alloc {F : Nat → Prop} {a w : World} (h : Kept F a w) (o : Obj) : Kept F a (w.alloc o) :=
  ⟨h.os, h.tape, h.output, Nat.le_trans h.size (by simp), fun i hi hn => (Below.heap_alloc w o i (Nat.lt_of_lt_of_le hi h.size)).trans (h.block i hi hn)⟩
theorem Kept.drew {F : Nat → Prop} {a w : World} (h : Kept F a w) : Kept F a w.drew := ⟨h.os, h.tape, h.output, h.size, h.block⟩
theorem Kept.drewN {F : Nat → Prop} {a w : World} (h : Kept F a w) (n : Nat) : Kept F a (w.drewN n) := ⟨h.os, h.tape, h.output, h.size, h.block⟩
theorem Kept.setCell {F : Nat → Prop} {a w : World} (h : Kept F a w) {p : Addr} (hp : p.block < a.heap.size → F p.block) (u : Value) : Kept F a (w.setCell p u) :=
  ⟨h.os, h.tape, h.output, by simpa [World.setCell] using h.size, fun i hi hn => (Below.heap_setCell w p u i (fun e => hn (by rw [e]; exact hp (by rw [← e]; exact hi)))).trans (h.block i hi hn)⟩
theorem Kept.grown {F : Nat → Prop} {a w w' : World} {row : Option Nat} (h : Kept F a w) (hg : w.grownBy w' row) (hr : ∀ k, row = some k → k < a.heap.size → F k) : Kept F a w' :=
  ⟨hg.os.trans h.os, hg.tape.trans h.tape, hg.output.trans h.output, Nat.le_trans h.size hg.size, fun i hi hn => (hg.block i (Nat.lt_of_lt_of_le hi h.size) (fun e => hn (hr i e.symm hi))).trans (h.block i hi hn)⟩
theorem Kept.below {F : Nat → Prop} {a b : World} (h : Kept F a b) (B : Nat) (hB : B ≤ a.heap.size) (hF : ∀ i, F i → B ≤ i) : Below B a b :=
  ⟨h.os, h.tape, h.output, h.size, fun i hi => h.block i (Nat.lt_of_lt_of_le hi hB) (fun hf => by have := hF i hf; omega)⟩
theorem Kept.of_below {a b : World} (h : Below a.heap.size a b) : Kept none' a b := ⟨h.os, h.tape, h.output, h.size, fun i hi _ => h.block i hi⟩
theorem Kept.cell {F : Nat → Prop} {w w' : World} (h : Kept F w w') {p : Addr} {v : Value} (hc : w.cell? p = some v) (hp : ¬ F p.block) : w'.cell? p = some v :=
  (World.cell?_of_block (w := w) (h.block p.block (World.block_lt_of_cell? w p hc) hp)).trans hc

/-- How a slice of spans reads as an element of the cloud: its header itself. -/
def rawElem : Value → Option (DataW Unit × List MemPlace)
  | .slice (some ⟨g, off, none⟩) n c => some (.agg [.lit (.int .i64 g), .lit (.int .i64 off), .lit (.int .i64 n), .lit (.int .i64 c)], [])
  | .slice none 0 0 => some (.nil, [])
  | _ => none
def rawData (g off n c : Nat) : DataW Unit := .agg [.lit (.int .i64 g), .lit (.int .i64 off), .lit (.int .i64 n), .lit (.int .i64 c)]
theorem rawElem_mk (g off n c : Nat) : rawElem (.slice (some ⟨g, off, none⟩) n c) = some (rawData g off n c, []) := rfl
theorem rawElem_nil : rawElem (.slice none 0 0) = some (.nil, []) := rfl
theorem rawElem_inv {v : Value} {g off n c : Nat} {ps : List MemPlace} (h : rawElem v = some (rawData g off n c, ps)) : v = .slice (some ⟨g, off, none⟩) n c := by
  unfold rawElem at h
  split at h
  · simp only [rawData, Option.some.injEq, Prod.mk.injEq, DataW.agg.injEq, List.cons.injEq, DataW.lit.injEq, Lit.int.injEq, true_and, and_true] at h
    obtain ⟨⟨h1, h2, h3, h4⟩, _⟩ := h
    congr 3 <;> omega
  · simp [rawData] at h
  · cases h
theorem rawElem_nil_inv {v : Value} {ps : List MemPlace} (h : rawElem v = some (.nil, ps)) : v = .slice none 0 0 := by
  unfold rawElem at h
  split at h
  · simp at h
  · rfl
  · cases h

/-- A row of spans: block g, from cell off on, room for cap spans, the first ones L. -/
def Row (w : World) (g off cap : Nat) (L : List (Int × Int)) : Prop :=
  ∃ cur, w.heap[g]? = some (.cells cur 38 (0, 0)) ∧ off + cap * 2 ≤ cur.size ∧ L.length ≤ cap ∧ cap ≤ maxLen ∧
    ∀ i, i < L.length → cur[off + i * 2]? = some (.int .u64 (L.getD i (0, 0)).1) ∧ cur[off + i * 2 + 1]? = some (.int .u64 (L.getD i (0, 0)).2)
theorem Row.lt {w : World} {g off cap : Nat} {L : List (Int × Int)} (h : Row w g off cap L) : g < w.heap.size := by
  obtain ⟨cur, hg, _⟩ := h; exact (Array.getElem?_eq_some_iff.1 hg).1
theorem Row.later {F : Nat → Prop} {w w' : World} {g off cap : Nat} {L : List (Int × Int)} (h : Row w g off cap L) (k : Kept F w w') (hF : ¬ F g) : Row w' g off cap L := by
  have hl := h.lt
  obtain ⟨cur, hg, r⟩ := h; exact ⟨cur, (k.block g hl hF).trans hg, r⟩
theorem Row.cells {w : World} {g off cap : Nat} {L : List (Int × Int)} (h : Row w g off cap L) (i : Nat) (hi : i < L.length) :
    w.cell? ⟨g, off + i * 2, none⟩ = some (.int .u64 (L.getD i (0, 0)).1) ∧ w.cell? ⟨g, off + i * 2 + 1, none⟩ = some (.int .u64 (L.getD i (0, 0)).2) := by
  obtain ⟨cur, hg, _, _, _, hc⟩ := h
  have := hc i hi
  exact ⟨by rw [cell_of_row w g _ cur 38 (0, 0) hg]; exact this.1, by rw [cell_of_row w g _ cur 38 (0, 0) hg]; exact this.2⟩

/-- Where a key's slice of spans lies. -/
structure Loc where
  g : Nat
  off : Nat
  cap : Nat
abbrev key (s : ByteArray) : List UInt8 := s.data.toList

/-- THE CLOCK at block pb: its footprint F; of each key its ranges K; of each map at most nm entries. -/
structure IsClock (w : World) (pb : Nat) (F : Nat → Prop) (K : List UInt8 → List (Int × Int)) (nm : Nat) (mb mc : Option Nat) (D E : DataW Unit) (sl : List UInt8 → Loc) : Prop where
  struct : w.heap[pb]? = some (.cells #[.map mb, .map mc] 44 (0, 0))
  fp : F pb
  bound : ∀ k, F k → k < w.heap.size
  base : (mb = none ∧ D = .map []) ∨ ∃ b, mb = some b ∧ F b ∧ w.ownsMap Try.prog 9 (plainElem Try.prog 24) b nm D
  cloud : (mc = none ∧ E = .map []) ∨ ∃ b, mc = some b ∧ F b ∧ w.ownsMap Try.prog 9 rawElem b nm E
  canon : ∀ k, canon 1 (K k)
  bases : ∀ k, D.atKey (.string k) (.lit (.int .u64 0)) = .lit (.int .u64 (bs (K k))) ∧ Maps.has D (.string k) = decide (0 < bs (K k))
  clouds : ∀ k, Maps.has E (.string k) = !(cl (K k)).isEmpty
  rows : ∀ k, cl (K k) ≠ [] → E.atKey (.string k) .nil = rawData (sl k).g (sl k).off (cl (K k)).length (sl k).cap ∧ Row w (sl k).g (sl k).off (sl k).cap (cl (K k)) ∧ F (sl k).g
  apart : ∀ k k', cl (K k) ≠ [] → cl (K k') ≠ [] → k ≠ k' → (sl k).g ≠ (sl k').g
  two : ∀ b, mb = some b → mc ≠ some b
/-- .. wherever its parts lie. -/
def Clock (w : World) (pb : Nat) (F : Nat → Prop) (K : List UInt8 → List (Int × Int)) (nm : Nat) : Prop := ∃ mb mc D E sl, IsClock w pb F K nm mb mc D E sl

theorem ownsMap_later {k : TypeId} {R : Value → Option (DataW Unit × List MemPlace)} {F : Nat → Prop} {w w' : World} {b n : Nat} {D : DataW Unit} (h : w.ownsMap Try.prog k R b n D) (kk : Kept F w w') (hF : ¬ F b) : w'.ownsMap Try.prog k R b n D := by
  obtain ⟨es, clock, hb, r⟩ := h
  exact ⟨es, clock, (kk.block b (Array.getElem?_eq_some_iff.1 hb).1 hF).trans hb, r⟩
theorem IsClock.later {w w' : World} {pb : Nat} {F G : Nat → Prop} {K : List UInt8 → List (Int × Int)} {nm : Nat} {mb mc : Option Nat} {D E : DataW Unit} {sl : List UInt8 → Loc}
    (h : IsClock w pb F K nm mb mc D E sl) (k : Kept G w w') (hd : ∀ i, F i → ¬ G i) : IsClock w' pb F K nm mb mc D E sl :=
  ⟨(k.block pb (Array.getElem?_eq_some_iff.1 h.struct).1 (hd _ h.fp)).trans h.struct, h.fp, fun i hi => Nat.lt_of_lt_of_le (h.bound i hi) k.size,
   h.base.imp id (fun ⟨b, e, hf, ho⟩ => ⟨b, e, hf, ownsMap_later ho k (hd _ hf)⟩), h.cloud.imp id (fun ⟨b, e, hf, ho⟩ => ⟨b, e, hf, ownsMap_later ho k (hd _ hf)⟩),
   h.canon, h.bases, h.clouds, fun a ha => let ⟨h1, h2, h3⟩ := h.rows a ha; ⟨h1, h2.later k (hd _ h3), h3⟩, h.apart, h.two⟩
theorem Clock.later {w w' : World} {pb : Nat} {F G : Nat → Prop} {K : List UInt8 → List (Int × Int)} {nm : Nat} (h : Clock w pb F K nm) (k : Kept G w w') (hd : ∀ i, F i → ¬ G i) : Clock w' pb F K nm := by
  obtain ⟨mb, mc, D, E, sl, h⟩ := h
  exact ⟨mb, mc, D, E, sl, h.later k hd⟩
theorem Clock.bound {w : World} {pb : Nat} {F : Nat → Prop} {K : List UInt8 → List (Int × Int)} {nm : Nat} (h : Clock w pb F K nm) : ∀ k, F k → k < w.heap.size := by
  obtain ⟨mb, mc, D, E, sl, h⟩ := h
  exact h.bound
theorem Clock.canon {w : World} {pb : Nat} {F : Nat → Prop} {K : List UInt8 → List (Int × Int)} {nm : Nat} (h : Clock w pb F K nm) (k : List UInt8) : canon 1 (K k) := by
  obtain ⟨mb, mc, D, E, sl, h⟩ := h
  exact h.canon k

/-! ### Look-ups -/
theorem law : Keyed Try.prog 9 := string_keyed Try.underlying9
theorem zero24 (w : World) : (zeroValue 24).run Try.prog w = .ok (.int .u64 0) w := by kernel_rfl
theorem zero32 (w : World) : (zeroValue 32).run Try.prog w = .ok (.slice none 0 0) w := by kernel_rfl
theorem keyOf_s {s : ByteArray} (h : s.size ≤ maxLen) : keyOf Try.prog 9 (.string s) = some (.string (key s)) := Go.WideMaps.keyOf_string_mk Try.underlying9 h

theorem IsClock.lookB {w : World} {pb : Nat} {F : Nat → Prop} {K : List UInt8 → List (Int × Int)} {nm : Nat} {mb mc : Option Nat} {D E : DataW Unit} {sl : List UInt8 → Loc} (h : IsClock w pb F K nm mb mc D E sl) {s : ByteArray} (hs : s.size ≤ maxLen) :
    (Instr.lookup 41 (.map mb) (.string s) false).run Try.prog w = .ok (.int .u64 (bs (K (key s)))) w := by
  rcases h.base with ⟨rfl, rfl⟩ | ⟨b, rfl, _, ho⟩
  · have := Maps.look_nil (w := w) false law Try.underlying41 (zero24 w) (keyOf_s hs)
    have hb := (h.bases (key s)).1
    rw [Maps.atKey_of_not_has (by rfl)] at hb
    simp only [DataW.lit.injEq, Lit.int.injEq, true_and] at hb
    rw [← hb]; exact this
  · obtain ⟨c, hrun, hat, _⟩ := ho.lookup_int law Try.underlying41 Try.underlying24 (zero24 w) (keyOf_s hs)
    have hb := (h.bases (key s)).1
    rw [hb] at hat
    simp only [DataW.lit.injEq, Lit.int.injEq, true_and] at hat
    rw [hat]; exact hrun
/-- The slice that lies in the cloud at a key. -/
def slv (K : List UInt8 → List (Int × Int)) (sl : List UInt8 → Loc) (k : List UInt8) : Value :=
  if (cl (K k)).isEmpty then .slice none 0 0 else .slice (some ⟨(sl k).g, (sl k).off, none⟩) (cl (K k)).length (sl k).cap
theorem IsClock.lookC {w : World} {pb : Nat} {F : Nat → Prop} {K : List UInt8 → List (Int × Int)} {nm : Nat} {mb mc : Option Nat} {D E : DataW Unit} {sl : List UInt8 → Loc} (h : IsClock w pb F K nm mb mc D E sl) {s : ByteArray} (hs : s.size ≤ maxLen) :
    (Instr.lookup 42 (.map mc) (.string s) false).run Try.prog w = .ok (slv K sl (key s)) w := by
  unfold slv
  have hh := h.clouds (key s)
  rcases h.cloud with ⟨rfl, rfl⟩ | ⟨b, rfl, _, ho⟩
  · have := Maps.look_nil (w := w) false law Try.underlying42 (zero32 w) (keyOf_s hs)
    have he : (cl (K (key s))).isEmpty = true := by
      have e : Maps.has (DataW.map [] : DataW Unit) (.string (key s)) = false := rfl
      rw [e] at hh; simpa using hh.symm
    rw [if_pos he]; exact this
  · obtain ⟨v, ps, hrun, hv⟩ := ho.lookup law Try.underlying42 (zero32 w) rawElem_nil (keyOf_s hs)
    by_cases he : (cl (K (key s))).isEmpty = true
    · rw [if_pos he]
      rw [Maps.atKey_of_not_has (by rw [hh, he]; rfl)] at hv
      rw [rawElem_nil_inv hv] at hrun; exact hrun
    · rw [if_neg he]
      rw [(h.rows (key s) (by simpa using he)).1] at hv
      rw [rawElem_inv hv] at hrun; exact hrun
end Go.Proofs.Qxb6630298a
