/-
  THE FRAME OF THE TWO CARDS: a start that fits (the four listed variables as the program's text lays them), and what 'laid' hands to the walks. After the guide's IpowProofs.lean, IpowTold.lean, PortLaid.lean, at this dump's numbers.
-/
import Derived.Test.Qxb6630436aFmtTie
import Derived.Test.Qxb6630436aFmtCards
import Derived.Test.Qxb6630436aFmtWalks
import Derived.Stop.JoinedTold
import Derived.Stop.LaidErr
import Derived.SevenTiedAt
import Derived.ProofKit
import Derived.LaidLaws
import Derived.Below
import Derived.ChangeOld
namespace Go.Proofs.Qxb6630436aFmt
open Go.ChangeShapes Go.WideShapes Go.ChangeAt Go.RowKit

theorem own : ownKnob Tryf.prog.godebug = none := by kernel_rfl
theorem laidOut : laidOutB Tryf.prog = true := by kernel_rfl
theorem stops : Tryf.pinned.checked.prog.stops = ["fmt.Sprintf"] := by kernel_rfl
theorem stopKnobs : Tryf.pinned.checked.prog.stopKnobs = [] := by kernel_rfl
theorem quiet (os : Os) : Stop.quiet Tryf.pinned.checked.prog os := by
  intro k hk
  rw [stopKnobs] at hk
  cases hk
/-- The listed sentinel's dynamic type, by its name in the given row. -/
def sentName : String := match Rows.laid_io_ErrUnexpectedEOF (H := Unit) with
  | .iface n _ => n
  | _ => "none"
theorem row59 (u : TypeId) (h : Tryf.prog.typeName? 3 u = some sentName) : u = 59 := by
  refine typeName_ptr_named (nm := "errors.errorString") ?_ (by kernel_rfl) (by decide) u (h.trans (congrArg some ?_))
  · kernel_rfl
  · decide
theorem gE : Tryf.prog.globalNamed "io.ErrUnexpectedEOF" = some 0 := by kernel_rfl
theorem gEType : (Tryf.prog.globals[0]?).map (·.type) = some 26 := by kernel_rfl
theorem cells79 : Tryf.prog.cellsOf 79 = 1 := by kernel_rfl
theorem cells9 : Tryf.prog.cellsOf 9 = 1 := by kernel_rfl

/-- The tables' cells, off the listed data. -/
def litOf : DataW Unit → Value
  | .lit (.int k n) => .int k n
  | _ => .nilIface
def cellsOfAgg : DataW Unit → Array Value
  | .agg l => (l.map litOf).toArray
  | _ => #[]
/-- A world in which the four listed variables hold what the text lays: the settled world with one block more, the sentinel's struct. -/
def laidWorld (P : Program) (os : Os) : World :=
  let N := (World.settled P os).heap.size
  let w0 := World.holding P os ⟨#[.cells #[.string ⟨#[117, 110, 101, 120, 112, 101, 99, 116, 101, 100, 32, 69, 79, 70]⟩] 79], #[], []⟩
  let put (h : Array Obj) (g : Nat) (cs : Array Value) : Array Obj := h.modify g fun
    | .cells _ t frozen => .cells cs t frozen
    | o => o
  { w0 with heap := put (put (put (put w0.heap 0 #[.iface 59 (.pointer (some ⟨N, 0, none⟩))]) 1 (cellsOfAgg Rows.laid_internal_strconv_uint64pow10)) 2 (cellsOfAgg Rows.laid_math_bits_deBruijn32tab)) 3 (cellsOfAgg Rows.laid_math_bits_deBruijn64tab) }

set_option maxRecDepth 1000000 in
theorem laid_met1 (os : Os) (args : Array Value) : laidMet Tryf.prog Rows.fnReadLenencIntAgreesWithReadUintRow.laid ((laidWorld Tryf.prog os).forCall (fun _ _ => 0) ⟨#[], args, []⟩).memory :=
  laidMet_of_run (ps := MemPlace.row ⟨2, 0, none⟩ 32 ++ (MemPlace.row ⟨3, 0, none⟩ 64 ++ (MemPlace.row ⟨1, 0, none⟩ 20 ++ [.cell 0 0, .cell (World.settled Tryf.prog os).heap.size 0]))) 8 (by kernel_rfl) (by kernel_rfl) (by kernel_rfl)
/-- What the walks want of the listed sentinel: the variable's cell is there. -/
theorem sentinel {W : World} (hL : laidMet Tryf.prog Rows.fnReadLenencIntAgreesWithReadUintRow.laid W) : ∃ v, W.cell? ⟨0, 0, none⟩ = some (.iface 59 v) := by
  obtain ⟨a1, s1, hv1, _⟩ := laid_sentinel (g := 0) hL.tail.tail.tail gE gEType Tryf.underlying26 row59 Tryf.underlying59 Tryf.underlying79 rfl rfl Tryf.underlying9 cells79 cells9
  exact ⟨_, by simpa using World.var?_cell gE hv1 0⟩

theorem bs_nil (w : World) : Bs w none 0 [] := ⟨rfl, fun z hz => by simp at hz, fun h => by omega⟩
/-- From the opened slice to what the walks are told. -/
theorem bs_of {w : World} {x : Addr} {len cap : Nat} {zs : List Int} (hl : len ≤ cap) (hz : zs.length = cap) (hc : ∀ i, i < zs.length → w.cell? (x.add i) = some (.int .u8 (zs.getD i 0))) (hw : ∀ n ∈ zs, (Lit.int .u8 n).wf = true) : Bs w (some x) len (zs.take len) := by
  refine ⟨by simp; omega, fun z hzm => ?_, fun h0 => ?_⟩
  · have := hw z (List.mem_of_mem_take hzm)
    simp [Lit.wf, IntKind.min, IntKind.max, IntKind.signed, IntKind.bits] at this
    omega
  · obtain ⟨b, off, spot⟩ := x
    have hspot : spot = none := by simpa [Addr.add] using World.cell?_spot (hc 0 (by omega))
    subst hspot
    refine ⟨b, off, rfl, World.block_lt_of_cell? w _ (hc 0 (by omega)), fun i hi => ?_⟩
    have h := hc i (by omega)
    rw [Addr.add_lit] at h
    rw [h]
    simp [List.getD, hi]
end Go.Proofs.Qxb6630436aFmt
