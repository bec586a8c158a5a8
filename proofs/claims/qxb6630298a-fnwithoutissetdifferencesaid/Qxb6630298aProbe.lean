/-
  THE PROBES: zzLo, zzIn, zzInSpans, zzAt, zzJoin, zzProbe, zzCanonical, each as the plain function that it computes.
-/
import Derived.Test.Qxb6630298aHeld
namespace Go.Proofs.Qxb6630298a
open Go.RowKit Go.Maps

/-! ### Plain -/
def hit (k : List UInt8) (x : Int) (e : Evt) : Bool := decide (key e.1 = k ∧ 1 ≤ x ∧ e.2.1 ≤ x ∧ x ≤ e.2.2)
def inB (L : List Evt) (k : List UInt8) (x : Int) : Bool := L.any (hit k x)
def memB (L : List (Int × Int)) (x : Int) : Bool := L.any fun p => decide (p.1 ≤ x ∧ x ≤ p.2)
theorem inB_iff (L : List Evt) (k : List UInt8) (x : Int) : inB L k x = true ↔ cov L k x := by
  simp [inB, hit, cov, List.any_eq_true]
theorem memB_iff (L : List (Int × Int)) (x : Int) : memB L x = true ↔ mem x L := by
  simp [memB, mem, List.any_eq_true]
def lo1 (x : Int) : Int := if x = 0 then 1 else x
theorem lo1_le {l x : Int} (hl : 0 ≤ l) : lo1 l ≤ x ↔ 1 ≤ x ∧ l ≤ x := by
  unfold lo1; split <;> omega
/-- 2: it holds x; 1: it doesn't. -/
def at2 (d : Int → Bool) (x : Int) : Int := if d x = true then 2 else 1
def join2 (p q : Int) : Int := if p = 2 ∨ q = 2 then 2 else 1
def probe (d : Int → Bool) (l h : Int) : Int :=
  if h < l then 1 else
    let r1 := if 0 < l then join2 1 (at2 d (l - 1)) else 1
    let r2 := join2 r1 (at2 d l)
    let r3 := join2 r2 (at2 d h)
    if h < 18446744073709551615 then join2 r3 (at2 d (h + 1)) else r3
theorem at2_or (d : Int → Bool) (x : Int) : at2 d x = 1 ∨ at2 d x = 2 := by unfold at2; split <;> simp
theorem join2_or (p q : Int) : join2 p q = 1 ∨ join2 p q = 2 := by unfold join2; split <;> simp
theorem at2_two {d : Int → Bool} {x : Int} : at2 d x = 2 ↔ d x = true := by unfold at2; split <;> simp_all
theorem join2_two {p q : Int} : join2 p q = 2 ↔ p = 2 ∨ q = 2 := by unfold join2; split <;> simp_all
theorem probe_or (d : Int → Bool) (l h : Int) : probe d l h = 1 ∨ probe d l h = 2 := by
  unfold probe
  split
  · exact .inl rfl
  · dsimp only
    split <;> exact join2_or _ _
theorem probe_some {d : Int → Bool} {l h : Int} (hp : probe d l h = 2) : ∃ x, d x = true := by
  unfold probe at hp
  split at hp
  · cases hp
  · dsimp only at hp
    have h3 : join2 (join2 (if 0 < l then join2 1 (at2 d (l - 1)) else 1) (at2 d l)) (at2 d h) = 2 → ∃ x, d x = true := fun e => by
      rcases join2_two.1 e with e | e
      · rcases join2_two.1 e with e | e
        · split at e
          · rcases join2_two.1 e with e | e
            · cases e
            · exact ⟨_, at2_two.1 e⟩
          · cases e
        · exact ⟨_, at2_two.1 e⟩
      · exact ⟨_, at2_two.1 e⟩
    split at hp
    · rcases join2_two.1 hp with e | e
      · exact h3 e
      · exact ⟨_, at2_two.1 e⟩
    · exact h3 hp
theorem probe_at {d : Int → Bool} {l h : Int} (hlh : l ≤ h) (hd : d l = true) : probe d l h = 2 := by
  unfold probe
  rw [if_neg (by omega)]
  dsimp only
  have h3 : join2 (join2 (if 0 < l then join2 1 (at2 d (l - 1)) else 1) (at2 d l)) (at2 d h) = 2 := join2_two.2 (.inl (join2_two.2 (.inr (at2_two.2 hd))))
  split
  · exact join2_two.2 (.inl h3)
  · exact h3

/-! ### Walks -/
theorem zzLo (x : Int) (w : World) : Calls Try.prog 12 #[.int .u64 x] w fun e w' => e = .returned (.int .u64 (lo1 x)) ∧ w' = w := by
  by_cases hx : x = 0
  · go_enter Try.func12, Try.ntmps12
    go_wp2_with fail
    go_ret
    exact ⟨by simp [lo1, hx], rfl⟩
  · go_enter Try.func12, Try.ntmps12
    go_wp2_with fail
    go_ret
    exact ⟨by simp [lo1, hx], rfl⟩

theorem zzJoin (p q : Int) (w : World) (hp : p = 1 ∨ p = 2) (hq : q = 1 ∨ q = 2) : Calls Try.prog 21 #[.int .i64 p, .int .i64 q] w fun e w' => e = .returned (.int .i64 (join2 p q)) ∧ w' = w := by
  rcases hp with rfl | rfl <;> rcases hq with rfl | rfl
  all_goals
    go_enter Try.func21, Try.ntmps21
    go_wp2_with fail
    go_ret
    exact ⟨rfl, rfl⟩

theorem inB_snoc {L : List Evt} {ii : Nat} (hi : ii < L.length) (k : List UInt8) (x : Int) : inB (L.take (ii + 1)) k x = (inB (L.take ii) k x || hit k x (L.getD ii evt0)) := by
  rw [ev_snoc hi]; simp [inB]
theorem inB_of_hit {L : List Evt} {ii : Nat} (hi : ii < L.length) {k : List UInt8} {x : Int} (h : hit k x (L.getD ii evt0) = true) : inB L k x = true :=
  List.any_eq_true.2 ⟨_, by simp [List.getD, hi], h⟩
theorem hit_true {k : List UInt8} {x : Int} {e : Evt} (h0 : 0 ≤ e.2.1) (h1 : key e.1 = k) (h2 : lo1 e.2.1 ≤ x) (h3 : x ≤ e.2.2) : hit k x e = true :=
  decide_eq_true ⟨h1, ((lo1_le h0).1 h2).1, ((lo1_le h0).1 h2).2, h3⟩
theorem hit_false {k : List UInt8} {x : Int} {e : Evt} (h0 : 0 ≤ e.2.1) (h : ¬ (key e.1 = k ∧ lo1 e.2.1 ≤ x ∧ x ≤ e.2.2)) : hit k x e = false :=
  decide_eq_false fun ⟨h1, h2, h3, h4⟩ => h ⟨h1, (lo1_le h0).2 ⟨h2, h3⟩, h4⟩

set_option maxRecDepth 100000 in
set_option maxHeartbeats 3200000 in
theorem zzIn (ao : Option Addr) (n c : Nat) (L : List Evt) (a : ByteArray) (x : Int) (w : World) (hV : EvS w (.slice ao n c) L) (hn : n = L.length) (hN : n ≤ 4096) (hG : WfE L) :
    Calls Try.prog 30 #[.slice ao n c, .string a, .int .u64 x] w fun e w' => e = .returned (.bool (inB L (key a) x)) ∧ w' = w := by
  have HV := (show Hid (EvS w (.slice ao n c) L) from hV)
  have HN := (show Hid (n = L.length) from hn)
  have HG := (show Hid (WfE L) from hG)
  clear hV hn hG
  go_enter Try.func30, Try.ntmps30
  go_wp2_with fail
  go_loopw [7] (fun i wr => wr = w ∧ ∃ ii : Nat, i = .int .i64 ii ∧ ii ≤ n ∧ inB (L.take ii) (key a) x = false) (fun i _ => n - (intOf i).toNat)
  case atStart => exact ⟨rfl, 0, rfl, Nat.zero_le _, rfl⟩
  case round =>
    obtain ⟨hwr, ii, rfl, hin, hno⟩ := hrel
    rw [hwr]
    clear hwr
    have HNO := (show Hid (inB (L.take ii) (key a) x = false) from hno)
    clear hno
    by_cases hlt : ii < n
    · have hil : ii < L.length := by rw [← HN.out]; exact hlt
      obtain ⟨g, off, s, hao, c0, c1, c2, hs⟩ := HV.out.at ii hlt
      have hlo0 := (HG.out _ (show L.getD ii evt0 ∈ L by simp [List.getD, hil])).2.1
      have HT := (show Hid (lo1 (L.getD ii evt0).2.1 ≤ x → x ≤ (L.getD ii evt0).2.2 → key s = key a → inB L (key a) x = true) from fun h2 h3 h1 => inB_of_hit hil (hit_true hlo0 (by rw [← hs]; exact h1) h2 h3))
      have HF := (show Hid (¬ (key s = key a ∧ lo1 (L.getD ii evt0).2.1 ≤ x ∧ x ≤ (L.getD ii evt0).2.2) → inB (L.take (ii + 1)) (key a) x = false) from fun h => by rw [inB_snoc hil, HNO.out, hit_false hlo0 (by rw [← hs]; exact h)]; rfl)
      obtain ⟨lo, hlo⟩ : ∃ lo, lo = (L.getD ii evt0).2.1 := ⟨_, rfl⟩
      obtain ⟨hi, hhi⟩ : ∃ hi, hi = (L.getD ii evt0).2.2 := ⟨_, rfl⟩
      rw [← hlo] at c1 HT HF
      rw [← hhi] at c2 HT HF
      subst hao
      have hlt' : (ii : Int) < (n : Int) := by omega
      have hi0 : (0 : Int) ≤ (ii : Int) := by omega
      have HLO := (show Hid (Calls Try.prog 12 #[.int .u64 lo] w fun e w' => e = .returned (.int .u64 (lo1 lo)) ∧ w' = w) from zzLo lo w)
      clear hil hs hlo0 hlo hhi
      obtain ⟨l1, hl1⟩ : ∃ l1, l1 = lo1 lo := ⟨_, rfl⟩
      rw [← hl1] at HT HF HLO
      clear hl1
      by_cases h1 : key s = key a
      · have e1 := eq_of rfl h1
        by_cases h2 : l1 ≤ x
        · have e2 := decide_eq_true h2
          by_cases h3 : x ≤ hi
          · have e3 := decide_eq_true h3
            go_wp2_with (go_at_call 12; refine HLO.out.mono ?_; rintro e w' ⟨rfl, hw⟩; rw [hw]; clear hw)
            go_ret
            exact ⟨by rw [HT.out h2 h3 h1]; rfl, rfl⟩
          · have e3 := decide_eq_false h3
            go_wp2_with (go_at_call 12; refine HLO.out.mono ?_; rintro e w' ⟨rfl, hw⟩; rw [hw]; clear hw)
            go_roundw
            case rel => exact ⟨trivial, ii + 1, by go_num, by omega, HF.out (fun h => by have := h.2.2; omega)⟩
            case measure => simp [intOf]; omega
        · have e2 := decide_eq_false h2
          go_wp2_with (go_at_call 12; refine HLO.out.mono ?_; rintro e w' ⟨rfl, hw⟩; rw [hw]; clear hw)
          go_roundw
          case rel => exact ⟨trivial, ii + 1, by go_num, by omega, HF.out (fun h => by have := h.2.1; omega)⟩
          case measure => simp [intOf]; omega
      · have e1 := not_eq_of rfl h1
        go_wp2_with fail
        go_roundw
        case rel => exact ⟨trivial, ii + 1, by go_num, by omega, HF.out (fun h => h1 h.1)⟩
        case measure => simp [intOf]; omega
    · have hii : ii = L.length := by have := HN.out; omega
      have hno := HNO.out
      rw [hii, List.take_length] at hno
      go_wp2_with fail
      go_ret
      exact ⟨by rw [hno]; rfl, rfl⟩

theorem memB_snoc {L : List (Int × Int)} {ii : Nat} (hi : ii < L.length) (x : Int) : memB (L.take (ii + 1)) x = (memB (L.take ii) x || decide ((L.getD ii (0, 0)).1 ≤ x ∧ x ≤ (L.getD ii (0, 0)).2)) := by
  have e : L.take (ii + 1) = L.take ii ++ [L.getD ii (0, 0)] := by rw [List.take_add_one, List.getD, List.getElem?_eq_getElem hi]; rfl
  rw [e]; simp [memB]
theorem memB_of {L : List (Int × Int)} {ii : Nat} (hi : ii < L.length) {x : Int} (h : (L.getD ii (0, 0)).1 ≤ x ∧ x ≤ (L.getD ii (0, 0)).2) : memB L x = true :=
  List.any_eq_true.2 ⟨L.getD ii (0, 0), by simp [List.getD, hi], decide_eq_true h⟩
theorem SpanS.at {w : World} {P : Nat → Prop} {ao : Option Addr} {n c : Nat} {G : List (Int × Int)} (h : SpanS w P (.slice ao n c) G) (i : Nat) (hi : i < n) :
    ∃ g off, ao = some ⟨g, off, none⟩ ∧ w.cell? ⟨g, off + i * 2, none⟩ = some (.int .u64 (G.getD i (0, 0)).1) ∧ w.cell? ⟨g, off + i * 2 + 1, none⟩ = some (.int .u64 (G.getD i (0, 0)).2) := by
  obtain ⟨ao', n', c', e, hn, _, hr⟩ := h
  cases e
  obtain ⟨g, off, rfl, hrow, _⟩ := hr (fun h => by rw [h] at hn; simp at hn; omega)
  obtain ⟨h1, h2⟩ := hrow.cells i (by omega)
  exact ⟨g, off, rfl, h1, h2⟩
theorem SpanS.len {w : World} {P : Nat → Prop} {ao : Option Addr} {n c : Nat} {G : List (Int × Int)} (h : SpanS w P (.slice ao n c) G) : n = G.length := by
  obtain ⟨ao', n', c', e, hn, _, hr⟩ := h
  cases e
  exact hn

set_option maxRecDepth 100000 in
set_option maxHeartbeats 3200000 in
theorem zzInSpans (P : Nat → Prop) (ao : Option Addr) (n c : Nat) (G : List (Int × Int)) (x : Int) (w : World) (hV : SpanS w P (.slice ao n c) G) (hN : n ≤ 1099511627776) :
    Calls Try.prog 31 #[.slice ao n c, .int .u64 x] w fun e w' => e = .returned (.bool (memB G x)) ∧ w' = w := by
  have HV := (show Hid (SpanS w P (.slice ao n c) G) from hV)
  have HN := (show Hid (n = G.length) from hV.len)
  clear hV
  go_enter Try.func31, Try.ntmps31
  go_wp2_with fail
  go_loopw [5] (fun i wr => wr = w ∧ ∃ ii : Nat, i = .int .i64 ii ∧ ii ≤ n ∧ memB (G.take ii) x = false) (fun i _ => n - (intOf i).toNat)
  case atStart => exact ⟨rfl, 0, rfl, Nat.zero_le _, rfl⟩
  case round =>
    obtain ⟨hwr, ii, rfl, hin, hno⟩ := hrel
    rw [hwr]
    clear hwr
    have HNO := (show Hid (memB (G.take ii) x = false) from hno)
    clear hno
    by_cases hlt : ii < n
    · have hil : ii < G.length := by rw [← HN.out]; exact hlt
      obtain ⟨g, off, hao, c1, c2⟩ := HV.out.at ii hlt
      have HT := (show Hid ((G.getD ii (0, 0)).1 ≤ x ∧ x ≤ (G.getD ii (0, 0)).2 → memB G x = true) from fun h => memB_of hil h)
      have HF := (show Hid (¬ ((G.getD ii (0, 0)).1 ≤ x ∧ x ≤ (G.getD ii (0, 0)).2) → memB (G.take (ii + 1)) x = false) from fun h => by rw [memB_snoc hil, HNO.out, decide_eq_false h]; rfl)
      obtain ⟨lo, hlo⟩ : ∃ lo, lo = (G.getD ii (0, 0)).1 := ⟨_, rfl⟩
      obtain ⟨hi, hhi⟩ : ∃ hi, hi = (G.getD ii (0, 0)).2 := ⟨_, rfl⟩
      rw [← hlo] at c1 HT HF
      rw [← hhi] at c2 HT HF
      subst hao
      have hlt' : (ii : Int) < (n : Int) := by omega
      have hi0 : (0 : Int) ≤ (ii : Int) := by omega
      clear hil hlo hhi
      by_cases h2 : lo ≤ x
      · have e2 := decide_eq_true h2
        by_cases h3 : x ≤ hi
        · have e3 := decide_eq_true h3
          go_wp2_with fail
          go_ret
          exact ⟨by rw [HT.out ⟨h2, h3⟩]; rfl, rfl⟩
        · have e3 := decide_eq_false h3
          go_wp2_with fail
          go_roundw
          case rel => exact ⟨trivial, ii + 1, by go_num, by omega, HF.out (fun h => by have := h.2; omega)⟩
          case measure => simp [intOf]; omega
      · have e2 := decide_eq_false h2
        go_wp2_with fail
        go_roundw
        case rel => exact ⟨trivial, ii + 1, by go_num, by omega, HF.out (fun h => by have := h.1; omega)⟩
        case measure => simp [intOf]; omega
    · have hii : ii = G.length := by have := HN.out; omega
      have hno := HNO.out
      rw [hii, List.take_length] at hno
      go_wp2_with fail
      go_ret
      exact ⟨by rw [hno]; rfl, rfl⟩

/-- The set difference at one actor. -/
def dB (La Lb : List Evt) (k : List UInt8) (x : Int) : Bool := inB La k x && !inB Lb k x

set_option maxRecDepth 100000 in
set_option maxHeartbeats 3200000 in
theorem zzAt (aa ab ag : Option Addr) (na nb ng ca cb cg : Nat) (La Lb : List Evt) (G : List (Int × Int)) (P : Nat → Prop) (a : ByteArray) (x : Int) (w : World) (hA : EvS w (.slice aa na ca) La) (hB : EvS w (.slice ab nb cb) Lb) (hla : na = La.length) (hlb : nb = Lb.length) (hna : na ≤ 4096) (hnb : nb ≤ 4096)
    (hwa : WfE La) (hwb : WfE Lb) (hS : SpanS w P (.slice ag ng cg) G) (hng : ng ≤ 1099511627776) (hag : memB G x = dB La Lb (key a) x) :
    Calls Try.prog 22 #[.slice aa na ca, .slice ab nb cb, .slice ag ng cg, .string a, .int .u64 x] w fun e w' => e = .returned (.int .i64 (at2 (dB La Lb (key a)) x)) ∧ w' = w := by
  have C1 := zzIn aa na ca La a x w hA hla hna hwa
  have C2 := zzIn ab nb cb Lb a x w hB hlb hnb hwb
  have C3 := zzInSpans P ag ng cg G x w hS hng
  rw [hag] at C3
  unfold dB at C3
  have hat : at2 (dB La Lb (key a)) x = if (inB La (key a) x && !inB Lb (key a) x) = true then 2 else 1 := rfl
  rw [hat]
  obtain ⟨ba, hba⟩ : ∃ ba, ba = inB La (key a) x := ⟨_, rfl⟩
  obtain ⟨bb, hbb⟩ : ∃ bb, bb = inB Lb (key a) x := ⟨_, rfl⟩
  rw [← hba] at C1 C3 ⊢
  rw [← hbb] at C2 C3 ⊢
  have H1 := (show Hid _ from C1)
  have H2 := (show Hid _ from C2)
  have H3 := (show Hid _ from C3)
  clear C1 C2 C3 hA hB hS hag hba hbb hat hwa hwb hla hlb
  cases ba <;> cases bb
  all_goals
    go_enter Try.func22, Try.ntmps22
    go_wp2_with (first
      | (go_at_call_of 30 (Value.slice aa na ca); refine Calls.mono H1.out ?_; rintro e w' ⟨rfl, hw⟩; rw [hw]; clear hw)
      | (go_at_call_of 30 (Value.slice ab nb cb); refine Calls.mono H2.out ?_; rintro e w' ⟨rfl, hw⟩; rw [hw]; clear hw)
      | (go_at_call 31; refine Calls.mono H3.out ?_; rintro e w' ⟨rfl, hw⟩; rw [hw]; clear hw))
    go_ret
    exact ⟨rfl, rfl⟩

set_option maxRecDepth 100000 in
set_option maxHeartbeats 3200000 in
theorem zzProbe (aa ab ag : Option Addr) (na nb ng ca cb cg : Nat) (La Lb : List Evt) (G : List (Int × Int)) (P : Nat → Prop) (a : ByteArray) (l h : Int) (w : World) (hA : EvS w (.slice aa na ca) La) (hB : EvS w (.slice ab nb cb) Lb) (hla : na = La.length) (hlb : nb = Lb.length) (hna : na ≤ 4096) (hnb : nb ≤ 4096)
    (hwa : WfE La) (hwb : WfE Lb) (hS : SpanS w P (.slice ag ng cg) G) (hng : ng ≤ 1099511627776) (hag : ∀ x, memB G x = dB La Lb (key a) x) (hl0 : 0 ≤ l) (hlU : l ≤ 18446744073709551615) (hh0 : 0 ≤ h) (hhU : h ≤ 18446744073709551615) :
    Calls Try.prog 11 #[.slice aa na ca, .slice ab nb cb, .slice ag ng cg, .string a, .int .u64 l, .int .u64 h] w fun e w' => e = .returned (.int .i64 (probe (dB La Lb (key a)) l h)) ∧ w' = w := by
  have HAT := (show Hid (∀ x, Calls Try.prog 22 #[.slice aa na ca, .slice ab nb cb, .slice ag ng cg, .string a, .int .u64 x] w fun e w' => e = .returned (.int .i64 (at2 (dB La Lb (key a)) x)) ∧ w' = w) from fun x => zzAt aa ab ag na nb ng ca cb cg La Lb G P a x w hA hB hla hlb hna hnb hwa hwb hS hng (hag x))
  have HJ := (show Hid (∀ p q, (p = 1 ∨ p = 2) → (q = 1 ∨ q = 2) → Calls Try.prog 21 #[.int .i64 p, .int .i64 q] w fun e w' => e = .returned (.int .i64 (join2 p q)) ∧ w' = w) from fun p q hp hq => zzJoin p q w hp hq)
  obtain ⟨d, hd⟩ : ∃ d, d = dB La Lb (key a) := ⟨_, rfl⟩
  rw [← hd] at HAT ⊢
  clear hA hB hla hlb hwa hwb hS hag hd hna hnb hng
  by_cases hlh : l > h
  · go_enter Try.func11, Try.ntmps11
    go_wp2_with fail
    go_ret
    exact ⟨by unfold probe; rw [if_pos hlh]; rfl, rfl⟩
  · by_cases h0 : l > 0
    · by_cases hm : h < 18446744073709551615
      · go_enter Try.func11, Try.ntmps11
        go_wp2_with (first
          | (go_at_call 22; refine Calls.mono (HAT.out _) ?_; rintro e w' ⟨rfl, hw⟩; rw [hw]; clear hw)
          | (go_at_call 21; refine Calls.mono (HJ.out _ _ (by first | exact .inl rfl | exact join2_or _ _ | exact at2_or _ _) (by first | exact .inl rfl | exact join2_or _ _ | exact at2_or _ _)) ?_; rintro e w' ⟨rfl, hw⟩; rw [hw]; clear hw))
        go_ret
        exact ⟨by unfold probe; rw [if_neg (show ¬ h < l by omega)]; dsimp only; rw [if_pos (show 0 < l by omega), if_pos (show h < 18446744073709551615 by omega)]; rfl, rfl⟩
      · go_enter Try.func11, Try.ntmps11
        go_wp2_with (first
          | (go_at_call 22; refine Calls.mono (HAT.out _) ?_; rintro e w' ⟨rfl, hw⟩; rw [hw]; clear hw)
          | (go_at_call 21; refine Calls.mono (HJ.out _ _ (by first | exact .inl rfl | exact join2_or _ _ | exact at2_or _ _) (by first | exact .inl rfl | exact join2_or _ _ | exact at2_or _ _)) ?_; rintro e w' ⟨rfl, hw⟩; rw [hw]; clear hw))
        go_ret
        exact ⟨by unfold probe; rw [if_neg (show ¬ h < l by omega)]; dsimp only; rw [if_pos (show 0 < l by omega), if_neg (show ¬ h < 18446744073709551615 by omega)]; rfl, rfl⟩
    · by_cases hm : h < 18446744073709551615
      · go_enter Try.func11, Try.ntmps11
        go_wp2_with (first
          | (go_at_call 22; refine Calls.mono (HAT.out _) ?_; rintro e w' ⟨rfl, hw⟩; rw [hw]; clear hw)
          | (go_at_call 21; refine Calls.mono (HJ.out _ _ (by first | exact .inl rfl | exact join2_or _ _ | exact at2_or _ _) (by first | exact .inl rfl | exact join2_or _ _ | exact at2_or _ _)) ?_; rintro e w' ⟨rfl, hw⟩; rw [hw]; clear hw))
        go_ret
        exact ⟨by unfold probe; rw [if_neg (show ¬ h < l by omega)]; dsimp only; rw [if_neg (show ¬ 0 < l by omega), if_pos (show h < 18446744073709551615 by omega)]; rfl, rfl⟩
      · go_enter Try.func11, Try.ntmps11
        go_wp2_with (first
          | (go_at_call 22; refine Calls.mono (HAT.out _) ?_; rintro e w' ⟨rfl, hw⟩; rw [hw]; clear hw)
          | (go_at_call 21; refine Calls.mono (HJ.out _ _ (by first | exact .inl rfl | exact join2_or _ _ | exact at2_or _ _) (by first | exact .inl rfl | exact join2_or _ _ | exact at2_or _ _)) ?_; rintro e w' ⟨rfl, hw⟩; rw [hw]; clear hw))
        go_ret
        exact ⟨by unfold probe; rw [if_neg (show ¬ h < l by omega)]; dsimp only; rw [if_neg (show ¬ 0 < l by omega), if_neg (show ¬ h < 18446744073709551615 by omega)]; rfl, rfl⟩

set_option maxRecDepth 100000 in
set_option maxHeartbeats 3200000 in
theorem zzCanonical (P : Nat → Prop) (ao : Option Addr) (n c : Nat) (G : List (Int × Int)) (w : World) (hV : SpanS w P (.slice ao n c) G) (hc : canon 1 G) (hN : n ≤ 1099511627776) :
    Calls Try.prog 10 #[.slice ao n c] w fun e w' => e = .returned (.bool true) ∧ ∃ q, w' = w.drewN q := by
  have HV := (show Hid (SpanS w P (.slice ao n c) G) from hV)
  have HN := (show Hid (n = G.length) from hV.len)
  have HC := (show Hid (canon 1 G) from hc)
  clear hV hc
  go_enter Try.func10, Try.ntmps10
  go_wp2_with fail
  go_loopw [3] (fun i wr => ∃ ii q : Nat, i = .int .i64 ii ∧ ii ≤ n ∧ wr = w.drewN q) (fun i _ => n - (intOf i).toNat)
  case atStart => exact ⟨0, 0, rfl, Nat.zero_le _, rfl⟩
  case round =>
    obtain ⟨ii, q, rfl, hin, hwr⟩ := hrel
    rw [hwr]
    clear hwr
    by_cases hlt : ii < n
    · have hil : ii < G.length := by rw [← HN.out]; exact hlt
      obtain ⟨g, off, hao, c1, c2⟩ := HV.out.at ii hlt
      have hbd := canon_bd HC.out (G.getD ii (0, 0)) (by simp [List.getD, hil])
      have HO := (show Hid (∀ k, ii = k + 1 → (G.getD k (0, 0)).2 + 2 ≤ (G.getD ii (0, 0)).1 ∧ 0 ≤ (G.getD k (0, 0)).2) from fun k hk => ⟨canon_order HC.out k ii (by omega) hil, by
        have := canon_bd HC.out (G.getD k (0, 0)) (by simp [List.getD, show k < G.length by omega]); omega⟩)
      obtain ⟨lo, hlo⟩ : ∃ lo, lo = (G.getD ii (0, 0)).1 := ⟨_, rfl⟩
      obtain ⟨hi, hhi⟩ : ∃ hi, hi = (G.getD ii (0, 0)).2 := ⟨_, rfl⟩
      rw [← hlo] at c1 hbd HO
      rw [← hhi] at c2 hbd
      obtain ⟨b1, b2, b3⟩ := hbd
      have hlt' : (ii : Int) < (n : Int) := by omega
      have hi0 : (0 : Int) ≤ (ii : Int) := by omega
      have e1 : decide (lo < 1) = false := decide_eq_false (by omega)
      have e2 : decide (lo > hi) = false := decide_eq_false (by omega)
      clear hil hlo hhi
      rcases Nat.eq_zero_or_pos ii with hz | hz
      · subst hao
        have HZ := (show Hid (ii = 0) from hz)
        clear hz
        go_upto_region 4 with fail
        go_quiet (fail)
        have hz' : ¬ (ii : Int) > 0 := by have := HZ.out; omega
        go_wp2_with fail
        go_roundw
        case rel => exact ⟨ii + 1, q + nq, by go_num, by omega, rfl⟩
        case measure => simp [intOf]; omega
      · obtain ⟨k, rfl⟩ : ∃ k, ii = k + 1 := ⟨ii - 1, by omega⟩
        obtain ⟨g', off', hao', c3, c4⟩ := HV.out.at k (by omega)
        obtain ⟨o1, o2⟩ := HO.out k rfl
        subst hao
        cases hao'
        obtain ⟨hp, hhp⟩ : ∃ hp, hp = (G.getD k (0, 0)).2 := ⟨_, rfl⟩
        rw [← hhp] at c4 o1 o2
        have e3 : decide (lo ≤ hp) = false := decide_eq_false (by omega)
        have e4 : decide (lo - hp < 2) = false := decide_eq_false (by omega)
        clear HO hhp
        go_upto_region 4 with fail
        go_quiet (fail)
        go_upto_region 7 with fail
        go_quiet (fail)
        go_wp2_with fail
        go_roundw
        case rel => exact ⟨k + 1 + 1, _, by go_num, by omega, rfl⟩
        case measure => simp [intOf]; omega
    · go_wp2_with fail
      go_ret
      exact ⟨rfl, q, rfl⟩
end Go.Proofs.Qxb6630298a
