/-
  The walk of FnHex4AcceptsEncodingsRefusesOneBadByte.
-/
import Derived.Test.Qxb6606315aWalks
import Derived.Handy
import Derived.OpenShut
namespace Go.Proofs.Qxb6606315a
open Go.ChangeShapes Go.WideShapes Go.ChangeAt Go.RowKit
set_option linter.unusedVariables false
set_option linter.unusedSimpArgs false

theorem hexChar_any (n : Int) (up : Bool) (w : World) (h0 : 0 ≤ n) (h1 : n ≤ 15) :
    Calls Try.prog 9 #[.int .u8 n, .bool up] w fun e w' => ∃ c : Int, e = .returned (.int .u8 c) ∧ hexB c = true ∧ w' = w := by
  by_cases h : n < 10
  · go_enter Try.func9, Try.ntmps9
    go_wp2
    go_ret
    exact ⟨_, rfl, decide_eq_true (by omega), rfl⟩
  · cases up with
    | true =>
      go_enter Try.func9, Try.ntmps9
      go_wp2
      go_ret
      exact ⟨_, rfl, decide_eq_true (by omega), rfl⟩
    | false =>
      go_enter Try.func9, Try.ntmps9
      go_wp2
      go_ret
      exact ⟨_, rfl, decide_eq_true (by omega), rfl⟩

theorem lies4 (w : World) (c0 c1 c2 c3 : Int) : Lies (w.alloc (.cells #[.int .u8 c0, .int .u8 c1, .int .u8 c2, .int .u8 c3] 26)) (some ⟨w.heap.size, 0, none⟩) [c0, c1, c2, c3] := by
  refine Or.inr ⟨_, _, rfl, fun i hi => ?_⟩
  simp at hi
  rcases (show i = 0 ∨ i = 1 ∨ i = 2 ∨ i = 3 by omega) with rfl | rfl | rfl | rfl <;> simp [go_sem]

set_option maxHeartbeats 1000000 in
theorem law4 (a0 : Int) (a1 : Int) (a2 : Int) (a3 : Int) (w0 : (Lit.int .u16 a0).wf = true) (w1 : (Lit.int .u8 a1).wf = true) (w2 : (Lit.int .u8 a2).wf = true) (w3 : (Lit.int .u8 a3).wf = true) (w : World) :
    Calls Try.prog 4 #[.int .u16 a0, .int .u8 a1, .int .u8 a2, .int .u8 a3] w fun e w' => e = .returned (.bool true) ∧ Grown w w' := by
  have b3 : 0 ≤ a3 ∧ a3 ≤ 255 := bounds_u8 w3
  have b2 : 0 ≤ a2 ∧ a2 ≤ 255 := bounds_u8 w2
  have b0 : 0 ≤ a0 ∧ a0 ≤ 65535 := bounds_u16 w0
  go_enter Try.func4, Try.ntmps4
  go_wp2
  refine wp_loop_rounds 5 ?_; rw [rounds_succ]
  go_wp2_with fail
  refine (hexChar_any _ _ _ (by omega) (by omega)).mono ?_
  rintro e w' ⟨c0, rfl, h0, rfl⟩
  have H0 : Hid (hexB c0 = true) := h0
  clear h0
  go_wp2
  rw [rounds_succ]
  go_wp2_with fail
  refine (hexChar_any _ _ _ (by omega) (by omega)).mono ?_
  rintro e w' ⟨c1, rfl, h1, rfl⟩
  have H1 : Hid (hexB c1 = true) := h1
  clear h1
  go_wp2
  rw [rounds_succ]
  go_wp2_with fail
  refine (hexChar_any _ _ _ (by omega) (by omega)).mono ?_
  rintro e w' ⟨c2, rfl, h2, rfl⟩
  have H2 : Hid (hexB c2 = true) := h2
  clear h2
  go_wp2
  rw [rounds_succ]
  go_wp2_with fail
  refine (hexChar_any _ _ _ (by omega) (by omega)).mono ?_
  rintro e w' ⟨c3, rfl, h3, rfl⟩
  have H3 : Hid (hexB c3 = true) := h3
  clear h3
  go_wp2
  rw [rounds_succ]
  go_wp2_with fail
  refine (zzhex4_any _ 4 4 [c0, c1, c2, c3] _ rfl (by omega) (lies4 w c0 c1 c2 c3)).mono ?_
  rintro e w' ⟨rfl, rfl⟩
  have HT : Hid ([c0, c1, c2, c3].all hexB = true) := by show _ = _; simp [H0.out, H1.out, H2.out, H3.out]
  rw [HT.out]
  rcases (show a2 % 4 = 0 ∨ a2 % 4 = 1 ∨ a2 % 4 = 2 ∨ a2 % 4 = 3 by omega) with hp | hp | hp | hp
  · go_wp2_with fail
    refine (zzhex4_any _ 4 4 [a3, c1, c2, c3] _ rfl (by omega) (lies4 w a3 c1 c2 c3)).mono ?_
    rintro e w' ⟨rfl, rfl⟩
    have HT2 : Hid ([a3, c1, c2, c3].all hexB = hexB a3) := by show _ = _; simp [H0.out, H1.out, H2.out, H3.out]
    rw [HT2.out]
    generalize hx : hexB a3 = X
    go_wp2_with fail
    refine (isHex_any _ _).mono ?_
    rintro e w' ⟨rfl, rfl⟩
    rw [hx]
    clear hx
    go_wp2
    go_ret
    exact ⟨ret_bool (by simp), Grown.alloc (Grown.refl _) _ _⟩
  · go_wp2_with fail
    refine (zzhex4_any _ 4 4 [c0, a3, c2, c3] _ rfl (by omega) (lies4 w c0 a3 c2 c3)).mono ?_
    rintro e w' ⟨rfl, rfl⟩
    have HT2 : Hid ([c0, a3, c2, c3].all hexB = hexB a3) := by show _ = _; simp [H0.out, H1.out, H2.out, H3.out]
    rw [HT2.out]
    generalize hx : hexB a3 = X
    go_wp2_with fail
    refine (isHex_any _ _).mono ?_
    rintro e w' ⟨rfl, rfl⟩
    rw [hx]
    clear hx
    go_wp2
    go_ret
    exact ⟨ret_bool (by simp), Grown.alloc (Grown.refl _) _ _⟩
  · go_wp2_with fail
    refine (zzhex4_any _ 4 4 [c0, c1, a3, c3] _ rfl (by omega) (lies4 w c0 c1 a3 c3)).mono ?_
    rintro e w' ⟨rfl, rfl⟩
    have HT2 : Hid ([c0, c1, a3, c3].all hexB = hexB a3) := by show _ = _; simp [H0.out, H1.out, H2.out, H3.out]
    rw [HT2.out]
    generalize hx : hexB a3 = X
    go_wp2_with fail
    refine (isHex_any _ _).mono ?_
    rintro e w' ⟨rfl, rfl⟩
    rw [hx]
    clear hx
    go_wp2
    go_ret
    exact ⟨ret_bool (by simp), Grown.alloc (Grown.refl _) _ _⟩
  · go_wp2_with fail
    refine (zzhex4_any _ 4 4 [c0, c1, c2, a3] _ rfl (by omega) (lies4 w c0 c1 c2 a3)).mono ?_
    rintro e w' ⟨rfl, rfl⟩
    have HT2 : Hid ([c0, c1, c2, a3].all hexB = hexB a3) := by show _ = _; simp [H0.out, H1.out, H2.out, H3.out]
    rw [HT2.out]
    generalize hx : hexB a3 = X
    go_wp2_with fail
    refine (isHex_any _ _).mono ?_
    rintro e w' ⟨rfl, rfl⟩
    rw [hx]
    clear hx
    go_wp2
    go_ret
    exact ⟨ret_bool (by simp), Grown.alloc (Grown.refl _) _ _⟩
end Go.Proofs.Qxb6606315a
