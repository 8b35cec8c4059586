/-
  What the listed variables give the walks; the start that the door's own run leaves.
-/
import Derived.Test.Qxb6606225aDoorNew
import Derived.LaidMore
import Derived.LaidLaws
import Derived.Stop.LaidErr
import Derived.Stop.Joined
namespace Go.Proofs.Qxb6606225aDoor
open Go.ChangeShapes Go.WideShapes Go.ChangeAt Go.RowKit

theorem own : ownKnob Tryd.prog.godebug = none := by kernel_rfl
theorem laidOut : laidOutB Tryd.prog = true := by kernel_rfl
theorem gEof : Tryd.prog.globalNamed "io.EOF" = some 0 := by kernel_rfl
theorem gUex : Tryd.prog.globalNamed "io.ErrUnexpectedEOF" = some 1 := by kernel_rfl
theorem gShort : Tryd.prog.globalNamed "io.ErrShortBuffer" = some 7 := by kernel_rfl
theorem tEof : (Tryd.prog.globals[0]?).map (·.type) = some 32 := by kernel_rfl
theorem tUex : (Tryd.prog.globals[1]?).map (·.type) = some 32 := by kernel_rfl
theorem cells93 : Tryd.prog.cellsOf 93 = 1 := by kernel_rfl
theorem cells9 : Tryd.prog.cellsOf 9 = 1 := by kernel_rfl
theorem star : "*" ++ "errors.errorString" = "*errors.errorString" := by decide
theorem row75 (u : TypeId) (h : Tryd.prog.typeName? 3 u = some "*errors.errorString") : u = 75 :=
  typeName_ptr_named (nm := "errors.errorString") (by rw [star]; kernel_rfl) (by kernel_rfl) (by decide) u (by rw [star]; exact h)

/-- The row's list. -/
abbrev laid7 : List (String × DataW Unit) := [("io.ErrShortBuffer", Rows.laid_io_ErrShortBuffer), ("io.EOF", Rows.laid_io_EOF), ("io.ErrUnexpectedEOF", Rows.laid_io_ErrUnexpectedEOF), ("io.ErrNoProgress", Rows.laid_io_ErrNoProgress), ("bufio.ErrBufferFull", Rows.laid_bufio_ErrBufferFull), ("bufio.ErrNegativeCount", Rows.laid_bufio_ErrNegativeCount), ("bufio.errNegativeRead", Rows.laid_bufio_errNegativeRead)]

theorem door_met (os : Os) (args : Array Value) : laidMetH Tryd.prog laid7 ((World.doorLaid Tryd.prog 142 os).forCall (fun _ _ => 0) ⟨#[], args, []⟩).memory :=
  laidMetH_of_parts3 (fuel := 8) (laidMet_of_run' 8 (by kernel_rfl) (by kernel_rfl)) (by kernel_rfl) (by kernel_rfl)

theorem sen_head {n : String} {text : List UInt8} {r : List (String × DataW Unit)} {W : World} {g : Nat}
    (h : laidMet Tryd.prog ((n, .iface "*errors.errorString" (.ptr (.agg [.lit (.string text)]))) :: r) W)
    (hg : Tryd.prog.globalNamed n = some g) (ht : (Tryd.prog.globals[g]?).map (·.type) = some 32) :
    ∃ a : Addr, W.cell? ⟨g, 0, none⟩ = some (.iface 75 (.pointer (some a))) ∧ ∃ c t, W.heap[a.block]? = some (.cells c t (0, 0)) := by
  obtain ⟨ps, ⟨g0, t0, cs0, f0, p0, q0, hg0, ht0, hv0, hd0, _, e0⟩, _, hrows⟩ := h
  obtain rfl := Option.some.inj (hg.symm.trans hg0)
  obtain rfl := Option.some.inj (ht.symm.trans ht0)
  subst e0
  obtain ⟨l0⟩ := cs0
  have ok0 : ∀ u v, l0 = [.iface u v] → Value.okWide Tryd.prog W .any 0 u v := fun u v e => by
    subst e
    exact (hrows g 0 (by simp [MemPlace.row])).2 u v (by simpa using World.var?_cell hg0 hv0 0)
  obtain ⟨a0, s0, rfl, hc0, hs0, hz0, rfl⟩ := errorString_of_trod Tryd.underlying32 row75 Tryd.underlying75 Tryd.underlying93 rfl rfl Tryd.underlying9 cells93 cells9 hd0 ok0
  exact ⟨a0, by simpa using World.var?_cell hg0 hv0 0, (hrows a0.block a0.off (by simp [MemPlace.row])).1⟩

theorem sen_of_laid {W : World} (h : laidMetH Tryd.prog laid7 W) : ∃ ea ua, SenIn W ea ua := by
  have h7 : laidMet Tryd.prog laid7 W := by
    rw [MakeChecks.laidMetH_plain _ _ _ (by kernel_rfl)] at h
    exact h
  obtain ⟨sa, hs, _⟩ := sen_head h7 gShort (by kernel_rfl)
  obtain ⟨ea, he, heb⟩ := sen_head h7.tail gEof tEof
  obtain ⟨ua, hu, hub⟩ := sen_head h7.tail.tail gUex tUex
  exact ⟨ea, ua, he, hu, heb, hub, World.block_lt_of_cell? W _ hs⟩
end Go.Proofs.Qxb6606225aDoor
