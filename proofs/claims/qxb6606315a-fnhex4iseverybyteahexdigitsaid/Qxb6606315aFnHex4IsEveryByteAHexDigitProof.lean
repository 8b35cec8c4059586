import Derived.Test.Qxb6606315aRows
import Derived.WalkKit
import Derived.ProofKit
import Derived.OpenShut
import Derived.ShutString
import Derived.ChangeOld
import Derived.Below
import Derived.Test.Qxb6606315aClone
namespace Go.Proofs.Qxb6606315a.fnHex4IsEveryByteAHexDigit
open Go.ChangeShapes Go.WideShapes Go.ChangeAt Go.RowKit
open Go.ChangeMaps (open_string shut_string)
set_option linter.unusedVariables false

theorem own : ownKnob Try.prog.godebug = none := by kernel_rfl
theorem laidOut : laidOutB Try.prog = true := by kernel_rfl

/-- WHAT THE WALK IS TOLD OF A SLICE OF INTEGERS THAT CAME IN: it is nil; or it leads to a row of 'cap' cells, the numbers 'zs' (the first 'len' are its elements, the rest its spare room), each fitting its kind. -/
def IsRow (k : IntKind) (w : World) (a : Option Addr) (len cap : Nat) (zs : List Int) : Prop :=
  (a = none ∧ len = 0 ∧ cap = 0 ∧ zs = []) ∨
  ∃ x, a = some x ∧ len ≤ cap ∧ cap ≤ maxLen ∧ zs.length = cap ∧ (∀ i, i < zs.length → w.cell? (x.add i) = some (.int k (zs.getD i 0))) ∧ ∀ n ∈ zs, (Lit.int k n).wf = true

set_option maxHeartbeats 400000 in
theorem law3 (ad : Addr) (len cap : Nat) (zs : List Int) (w : World) (hlen : len ≤ 1048576) (hz : zs.length = len) (hl : Lies w (some ad) zs) :
    Calls Try.prog 3 #[.slice (some ad) len cap] w fun e w' => e = .returned (.bool true) ∧ Below w.heap.size w w' := by
  have hmk := run_make_row' (P := Try.prog) 22 5 (.int .u8 0) 1 Try.underlying22 Try.info5 rfl .i64 .i64 len (by omega) (by omega)
  have hne := fun w' : World => run_neq_slice_nil_any (P := Try.prog) w' 22 5 (some ad) len cap 0 0 Try.underlying22
  have HZ : Hid (zs.length = len) := hz
  have HL : Hid (Lies w (some ad) zs) := hl
  clear hz hl
  go_enter Try.func3, Try.ntmps3
  go_wp2_with (first | (go_at_call 6; go_in) | (with_reducible refine at_copy _ _ _ _ rfl ?_; refine wpList_copy_clone w rfl _ _ 22 22 rfl Try.underlying22 Try.size5 _ _ _ rfl rfl zs HZ HL ?_))
  intro w1 hrow0 hb1 hlt1
  have hrow : Hid (RowIn w1 w.heap.size zs) := hrow0
  clear hmk hne hrow0
  go_wp2
  go_loop [4, 5] (fun v i => ∃ k : Nat, k ≤ len ∧ i = .int .i64 k ∧ v = .bool ((zs.take k).all hexB)) (fun _ i => len - (intOf i).toNat)
  case atStart => exact ⟨0, Nat.zero_le _, rfl, by simp⟩
  case round =>
    obtain ⟨k, hk, rfl, rfl⟩ := hrel
    by_cases hlt : k < len
    · have hkz : k < zs.length := by rw [HZ.out]; exact hlt
      obtain ⟨c, hc⟩ : ∃ c, c = zs.getD k 0 := ⟨_, rfl⟩
      have hcell : w1.cell? ⟨w.heap.size, k, none⟩ = some (.int .u8 c) := by rw [hc]; exact hrow.out.cell k hkz
      have step : Hid ((zs.take (k + 1)).all hexB = ((zs.take k).all hexB && hexB c)) := by rw [hc]; exact take_all zs k hkz hexB
      clear hc hkz
      generalize hA : (zs.take k).all hexB = A at *
      generalize hB : (zs.take (k + 1)).all hexB = B at *
      clear hA
      cases hx : hexB c with
      | true =>
        go_wp2_with (go_at_call 7; refine (isHex_any _ _).mono ?_; rintro e w' ⟨rfl, rfl⟩; rw [hx])
        go_round
        case rel => exact ⟨k + 1, by omega, by go_num, by rw [hB, step.out, hx]; simp⟩
        case measure => simp [intOf]; omega
      | false =>
        go_wp2_with (go_at_call 7; refine (isHex_any _ _).mono ?_; rintro e w' ⟨rfl, rfl⟩; rw [hx])
        go_round
        case rel => exact ⟨k + 1, by omega, by go_num, by rw [hB, step.out, hx]; simp⟩
        case measure => simp [intOf]; omega
    · have ek : zs.take k = zs := List.take_of_length_le (by rw [HZ.out]; omega)
      rw [ek]
      clear ek
      go_wp2_with fail
      refine (zzhex4_any (some ⟨w.heap.size, 0, none⟩) len len zs w1 HZ.out hlen hrow.out.lies).mono ?_
      rintro e w' ⟨rfl, rfl⟩
      go_wp2
      go_ret
      exact ⟨ret_bool (by simp), hb1⟩

theorem law3_nil (w : World) :
    Calls Try.prog 3 #[.slice none 0 0] w fun e w' => e = .returned (.bool true) ∧ Below w.heap.size w w' := by
  have hne := fun w' : World => run_neq_slice_nil_any (P := Try.prog) w' 22 5 none 0 0 0 0 Try.underlying22
  go_enter Try.func3, Try.ntmps3
  go_wp2
  refine wp_loop_rounds 1 ?_; rw [rounds_succ]
  go_wp2_with fail
  refine (zzhex4_any none 0 0 [] _ rfl (by omega) (Or.inl rfl)).mono ?_
  rintro e w' ⟨rfl, rfl⟩
  go_wp2
  go_ret
  exact ⟨rfl, Below.refl _ _⟩

theorem law3_big (a : Option Addr) (len cap : Nat) (w : World) (h : 1048576 < len) (hm : len ≤ 9223372036854775807) :
    Calls Try.prog 3 #[.slice a len cap] w fun e w' => e = .returned (.bool true) ∧ Below w.heap.size w w' := by
  go_enter Try.func3, Try.ntmps3
  go_wp2
  go_ret
  exact ⟨rfl, Below.refl _ _⟩

theorem walk (a0 : Option Addr) (len0 cap0 : Nat) (z0 : List Int) (w : World) (w0 : IsRow .u8 w a0 len0 cap0 z0) :
    Calls Try.prog 3 #[.slice a0 len0 cap0] w fun e w' => e = .returned (.bool true) ∧ Below w.heap.size w w' := by
  rcases w0 with ⟨rfl, rfl, rfl, rfl⟩ | ⟨x, rfl, hl, hm, hz, hcell, hwz⟩
  · exact law3_nil w
  · unfold maxLen at hm
    by_cases hbig : 1048576 < len0
    · exact law3_big _ _ _ w hbig (by omega)
    · obtain ⟨a, ha, hlies, hpos⟩ := lies_of_cells hl hz hcell
      obtain rfl := ha
      exact law3 x len0 cap0 (z0.take len0) w (by omega) (by simp; omega) hlies

/-! ### THE ROW's STEP: WRITTEN OUT: LEAVE IT -/
set_option maxRecDepth 100000 in
theorem lifted (os : Os) (started : os.Started) (H : Type) (enc : TypeId × Value → H) :
    ReturnsInHanded {} Try.checked os 3 .any (Rows.fnHex4IsEveryByteAHexDigitSpec.pre6 enc Try.prog Try.f3 Rows.fnHex4IsEveryByteAHexDigitRow.domain false) (Rows.fnHex4IsEveryByteAHexDigitSpec.post enc Try.prog Try.f3 false true false false) := by
  refine returnsInHanded_of_change (C := Try.checked) own started (by kernel_rfl) Try.func3
    (ChangeSpec.witness6 (enc := enc) (C := Try.checked) false ⟨#[], #[.slice none 0 0], []⟩ 8 (by kernel_rfl) (by kernel_rfl) (by kernel_rfl) (by kernel_rfl)) ?_
  intro W base args ds gs before hval0 hW hcnd _
  have hval : ∀ (j : Nat) t v, Try.f3.params[j]? = some t → args[j]? = some v → Value.okWide Try.prog W .any base t v := hval0
  have hW' := hW
  obtain ⟨p, q, hA0, hV, rfl, hfz, hnd⟩ := hW
  have hA : DataW.TrodAll enc Try.prog W 0 (fun _ => true) true Try.f3.params.toList args.toList ds p := hA0
  rw [Try.params3] at hA hval
  obtain ⟨v0, vs0, d0, ds0, p0, q0, hargs, rfl, rfl, h0, r0⟩ := trodAll_cons hA
  obtain ⟨rfl, rfl, rfl⟩ := trodAll_nil r0
  obtain rfl : args = #[v0] := by cases args; simp_all
  obtain ⟨rfl, rfl⟩ := trodVars_none hV
  obtain ⟨a0, len0, cap0, rfl⟩ := okWide_slice Try.underlying22 (hval 0 22 v0 rfl rfl)
  have k0 := h0
  have lt0 : ∀ x ∈ p0, x.block < W.heap.size := by obtain ⟨m, hm⟩ := k0; exact DataW.trod_lt m _ _ _ hm
  obtain ⟨z0, w0⟩ : ∃ zs, IsRow .u8 W a0 len0 cap0 zs := by
    obtain ⟨fuel, hf⟩ := h0
    rcases open_ints Try.underlying22 Try.underlying5 (by kernel_rfl) hf with ⟨hcs, _⟩ | ⟨x, l, c, zs, hcs, _, hl, hm, hz, _, hcell, hwz⟩
    · simp [Value.cells] at hcs
      obtain ⟨rfl, rfl, rfl⟩ := hcs
      exact ⟨[], .inl ⟨rfl, rfl, rfl, rfl⟩⟩
    · simp [Value.cells] at hcs
      obtain ⟨rfl, rfl, rfl⟩ := hcs
      exact ⟨zs, .inr ⟨_, rfl, hl, hm, by simpa using hz, hcell, hwz⟩⟩
  clear hA0 hval0
  refine (walk a0 len0 cap0 z0 W w0).mono fun e W' ⟨he, bel⟩ => ?_
  subst he
  exact ⟨_, rfl, _, _, _, [], _, [], hW', trodAll_mk1 (shut_bool Try.underlying4 _), (trodAll_cons_mk (Below.trod laidOut (by kernel_rfl) (of_decide_eq_true (by kernel_rfl)) k0 bel lt0) trodAll_mk0), rfl, bel.frame _, fun h => by cases h⟩

theorem over : Rows.fnHex4IsEveryByteAHexDigitRow.holds Try.pinned (OpenSpec.ofChange Rows.fnHex4IsEveryByteAHexDigitSpec) :=
  OpenClaim.holds_of_wide 3 Try.f3 rfl rfl rfl rfl rfl rfl rfl ⟨rfl, rfl, rfl, rfl, rfl⟩ rfl rfl rfl rfl rfl (by kernel_rfl) Try.func3 (by kernel_rfl)
    (of_decide_eq_true (by kernel_rfl)) (by unfold Func.isWrapper; first | (rw [if_pos (by decide +kernel)]; kernel_rfl) | (rw [if_neg (by decide +kernel)]; exact ⟨rfl, rfl⟩))
    (fun os started H enc _ => lifted os started H enc)

/-- ████ THE STATEMENT ████ -/
theorem proved : Rows.FnHex4IsEveryByteAHexDigitSaid := over
end Go.Proofs.Qxb6606315a.fnHex4IsEveryByteAHexDigit
