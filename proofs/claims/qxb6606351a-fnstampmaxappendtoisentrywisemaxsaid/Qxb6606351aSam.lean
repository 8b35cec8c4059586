/-
  The walk of zzSameEntries; the getters.
-/
import Derived.Test.Qxb6606351aUni
namespace Go.Proofs.Qxb6606351a
open Go.ChangeShapes Go.WideShapes Go.ChangeAt Go.RowKit
set_option linter.unusedVariables false
set_option linter.unusedSimpArgs false

set_option maxRecDepth 100000 in
set_option maxHeartbeats 1000000 in
theorem sam_any (a1 a2 : Option Addr) (n c1 c2 : Nat) (es : List E) (w : World) (hz : es.length = n) (hn : n ≤ 10000000) (h1 : Ents w a1 es) (h2 : Ents w a2 es) :
    Calls Try.prog 17 #[.slice a1 n c1, .slice a2 n c2] w fun e w' => e = .returned (.bool true) ∧ ∃ m, w' = w.drewN m := by
  have HZ := Hid.mk hz
  have H1 := Hid.mk h1
  have H2 := Hid.mk h2
  clear hz h1 h2
  go_enter Try.func17, Try.ntmps17
  go_wp2
  go_loopw [5] (fun i wr => ∃ k m : Nat, k ≤ n ∧ i = .int .i64 k ∧ wr = w.drewN m) (fun i _ => n - (intOf i).toNat)
  case atStart => exact ⟨0, 0, by omega, rfl, rfl⟩
  case round =>
    obtain ⟨k, m, hk, rfl, rfl⟩ := hrel
    by_cases hlt : k < n
    · obtain ⟨b1, o1, rfl, d1⟩ := H1.out.at (by rw [HZ.out]; omega)
      obtain ⟨b2, o2, rfl, d2⟩ := H2.out.at (by rw [HZ.out]; omega)
      obtain ⟨p1, q1⟩ := d1 k (by rw [HZ.out]; omega)
      obtain ⟨p2, q2⟩ := d2 k (by rw [HZ.out]; omega)
      clear d1 d2
      obtain ⟨⟨p, c⟩, hpc⟩ : ∃ x, es.getD k (0, 0) = x := ⟨_, rfl⟩
      rw [hpc] at p1 q1 p2 q2
      simp only at p1 q1 p2 q2
      clear hpc
      have hlt' : (k : Int) < (n : Int) := by omega
      have hd : decide (p ≠ p) = false := by simp
      go_wp2
      go_quiet (fail)
      go_wp2
      go_roundw
      case rel => exact ⟨k + 1, _, by omega, by go_num, rfl⟩
      case measure => simp [intOf]; omega
    · obtain rfl : n = k := by omega
      go_wp2
      go_ret
      exact ⟨rfl, _, rfl⟩

section
variable (gm : Nat) (lv fu la ad fr : Value) (w : World)
theorem get_levels (h : Sm w gm lv fu la ad fr) : Calls Try.prog 15 #[.pointer (some ⟨gm, 0, none⟩)] w fun e w' => e = .returned lv ∧ w' = w := by
  have c := h.c0
  clear h
  go_enter Try.func15, Try.ntmps15
  go_wp2
  go_ret
  exact ⟨rfl, rfl⟩
theorem get_full (h : Sm w gm lv fu la ad fr) : Calls Try.prog 16 #[.pointer (some ⟨gm, 0, none⟩)] w fun e w' => e = .returned fu ∧ w' = w := by
  have c := h.c1
  clear h
  go_enter Try.func16, Try.ntmps16
  go_wp2
  go_ret
  exact ⟨rfl, rfl⟩
theorem get_last (h : Sm w gm lv fu la ad fr) : Calls Try.prog 18 #[.pointer (some ⟨gm, 0, none⟩)] w fun e w' => e = .returned la ∧ w' = w := by
  have c := h.c2
  clear h
  go_enter Try.func18, Try.ntmps18
  go_wp2
  go_ret
  exact ⟨rfl, rfl⟩
theorem get_added (h : Sm w gm lv fu la ad fr) : Calls Try.prog 19 #[.pointer (some ⟨gm, 0, none⟩)] w fun e w' => e = .returned ad ∧ w' = w := by
  have c := h.c3
  clear h
  go_enter Try.func19, Try.ntmps19
  go_wp2
  go_ret
  exact ⟨rfl, rfl⟩
theorem get_free (h : Sm w gm lv fu la ad fr) : Calls Try.prog 20 #[.pointer (some ⟨gm, 0, none⟩)] w fun e w' => e = .returned fr ∧ w' = w := by
  have c := h.c4
  clear h
  go_enter Try.func20, Try.ntmps20
  go_wp2
  go_ret
  exact ⟨rfl, rfl⟩
end
end Go.Proofs.Qxb6606351a
