/-
  The walk of FnReaderIntReadsBackDecimal.
-/
import Derived.Test.Qxb6606318aDec
import Derived.Test.Qxb6606318aInt
namespace Go.Proofs.Qxb6606318a
open Go.ChangeShapes Go.WideShapes Go.ChangeAt Go.RowKit
set_option linter.unusedVariables false
set_option linter.unusedSimpArgs false

theorem law_big (v : Int) (a : Option Addr) (len cap : Nat) (w : World) (h : 1048576 < len) (hm : len ≤ 9223372036854775807) :
    Calls Try.prog 3 #[.int .i64 v, .slice a len cap] w fun e w' => e = .returned (.bool true) ∧ Below w.heap.size w w' := by
  go_enter Try.func3, Try.ntmps3
  go_wp2
  go_ret
  exact ⟨rfl, Below.refl _ _⟩

theorem law_neg (v : Int) (a : Option Addr) (len cap : Nat) (w : World) (h : len ≤ 1048576) (hv : v < 0) :
    Calls Try.prog 3 #[.int .i64 v, .slice a len cap] w fun e w' => e = .returned (.bool true) ∧ Below w.heap.size w w' := by
  go_enter Try.func3, Try.ntmps3
  go_wp2
  go_ret
  exact ⟨rfl, Below.refl _ _⟩

theorem law_bad (v : Int) (b off len cap : Nat) (t0 : Int) (w : World) (h : len ≤ 1048576) (hv : 0 ≤ v) (hp : 0 < len) (hc : w.cell? ⟨b, off, none⟩ = some (.int .u8 t0))
    (hbad : (48 ≤ t0 ∧ t0 ≤ 57) ∨ t0 = 46 ∨ t0 = 101 ∨ t0 = 69) :
    Calls Try.prog 3 #[.int .i64 v, .slice (some ⟨b, off, none⟩) len cap] w fun e w' => e = .returned (.bool true) ∧ Below w.heap.size w w' := by
  have hp' : (0 : Int) < (len : Int) := by omega
  rcases hbad with ⟨h1, h2⟩ | rfl | rfl | rfl
  all_goals
    go_enter Try.func3, Try.ntmps3
    go_wp2
    go_ret
    exact ⟨rfl, Below.refl _ _⟩

end Go.Proofs.Qxb6606318a
