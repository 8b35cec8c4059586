/-
  The walk of zzIncreasing.
-/
import Derived.Test.Qxb6606351aTss
namespace Go.Proofs.Qxb6606351a
open Go.ChangeShapes Go.WideShapes Go.ChangeAt Go.RowKit
set_option linter.unusedVariables false
set_option linter.unusedSimpArgs false

/-- The processes rise. -/
def Inc (es : List E) : Prop := ∀ i, i + 1 < es.length → (es.getD i (0, 0)).1 < (es.getD (i + 1) (0, 0)).1

set_option maxHeartbeats 1000000 in
theorem incr_any (a : Option Addr) (n cap : Nat) (es : List E) (w : World) (hz : es.length = n) (hn : n ≤ 1048576) (ha : Ents w a es) :
    Calls Try.prog 25 #[.slice a n cap] w fun e w' => (∃ m, w' = w.drewN m) ∧ ∃ r, e = .returned (.bool r) ∧ (r = true → Inc es) := by
  by_cases h0 : n = 0
  · subst h0
    go_enter Try.func25, Try.ntmps25
    go_wp2
    refine wp_loop_rounds 1 ?_; rw [rounds_succ]
    go_wp2
    go_ret
    exact ⟨⟨0, rfl⟩, true, rfl, fun _ i hi => by omega⟩
  · obtain ⟨b, o, rfl, hc⟩ := ha.at (by omega)
    have HZ := Hid.mk hz
    have HC := Hid.mk hc
    clear ha hc hz
    go_enter Try.func25, Try.ntmps25
    go_wp2
    go_loopw [3] (fun i wr => ∃ k m : Nat, k < n ∧ i = .int .i64 ((k + 1 : Nat) : Int) ∧ wr = w.drewN m ∧ Hid (∀ j, j < k → (es.getD j (0, 0)).1 < (es.getD (j + 1) (0, 0)).1)) (fun i _ => n - (intOf i).toNat)
    case atStart => exact ⟨0, 0, by omega, rfl, rfl, fun j hj => by omega⟩
    case round =>
      obtain ⟨k, m, hk, rfl, rfl, hall⟩ := hrel
      by_cases hlt : k + 1 < n
      · obtain ⟨a1, _⟩ := HC.out k (by rw [HZ.out]; omega)
        obtain ⟨a2, _⟩ := HC.out (k + 1) (by rw [HZ.out]; omega)
        obtain ⟨p1, hp1⟩ : ∃ p, (es.getD k (0, 0)).1 = p := ⟨_, rfl⟩
        obtain ⟨p2, hp2⟩ : ∃ p, (es.getD (k + 1) (0, 0)).1 = p := ⟨_, rfl⟩
        rw [hp1] at a1
        rw [hp2] at a2
        have HP1 := Hid.mk hp1
        have HP2 := Hid.mk hp2
        clear hp1 hp2
        have hlt' : ((k + 1 : Nat) : Int) < (n : Int) := by omega
        have hlt2 : (k : Int) < (n : Int) := by omega
        by_cases hge : p2 ≤ p1
        · go_wp2
          go_quiet (fail)
          go_wp2
          go_ret
          exact ⟨⟨m + nq, World.drewN_drewN _ _ _⟩, false, rfl, fun h => by cases h⟩
        · go_wp2
          go_quiet (fail)
          go_wp2
          go_roundw
          case rel =>
            refine ⟨k + 1, _, by omega, by go_num, rfl, fun j hj => ?_⟩
            by_cases e : j = k
            · subst e; rw [HP1.out, HP2.out]; omega
            · exact hall.out j (by omega)
          case measure => simp [intOf]; omega
      · go_wp2
        go_ret
        refine ⟨⟨_, rfl⟩, true, rfl, fun _ j hj => ?_⟩
        rw [HZ.out] at hj
        exact hall.out j (by omega)
end Go.Proofs.Qxb6606351a
