import Derived.Test.Qxb6606318aRows
import Derived.WalkKit
import Derived.ProofKit
import Derived.OpenShut
import Derived.ShutString
import Derived.ChangeOld
import Derived.Below
import Derived.Test.Qxb6606318aMain
namespace Go.Proofs.Qxb6606318a.fnReaderIntReadsBackDecimal
open Go.ChangeShapes Go.WideShapes Go.ChangeAt Go.RowKit
open Go.ChangeMaps (open_string shut_string)
set_option linter.unusedVariables false

theorem own : ownKnob Try.prog.godebug = none := by kernel_rfl
theorem laidOut : laidOutB Try.prog = true := by kernel_rfl

/-- WHAT THE WALK IS TOLD OF A SLICE OF INTEGERS THAT CAME IN: it is nil; or it leads to a row of 'cap' cells, the numbers 'zs' (the first 'len' are its elements, the rest its spare room), each fitting its kind. -/
def IsRow (k : IntKind) (w : World) (a : Option Addr) (len cap : Nat) (zs : List Int) : Prop :=
  (a = none ∧ len = 0 ∧ cap = 0 ∧ zs = []) ∨
  ∃ x, a = some x ∧ len ≤ cap ∧ cap ≤ maxLen ∧ zs.length = cap ∧ (∀ i, i < zs.length → w.cell? (x.add i) = some (.int k (zs.getD i 0))) ∧ ∀ n ∈ zs, (Lit.int k n).wf = true

theorem lies_of_cells {w : World} {x : Addr} {len cap : Nat} {z0 : List Int} (hl : len ≤ cap) (hz : z0.length = cap) (hcell : ∀ i, i < z0.length → w.cell? (x.add i) = some (.int .u8 (z0.getD i 0))) :
    Lies w (some x) (z0.take len) := by
  by_cases h0 : len = 0
  · subst h0
    exact Or.inl (by simp)
  · obtain ⟨b, off, spot⟩ := x
    have hc := hcell 0 (by omega)
    have hspot : spot = none := by simpa [Addr.add] using World.cell?_spot hc
    subst hspot
    refine Or.inr ⟨b, off, rfl, fun i hi => ?_⟩
    simp at hi
    have := hcell i (by omega)
    rw [Addr.add_lit] at this
    rw [this]
    have hi' : i < len := by omega
    simp [List.getD, hi']

theorem walk (a0 : Int) (a1 : Option Addr) (len1 cap1 : Nat) (z1 : List Int) (w : World) (w0 : (Lit.int .i64 a0).wf = true) (w1 : IsRow .u8 w a1 len1 cap1 z1) :
    Calls Try.prog 3 #[.int .i64 a0, .slice a1 len1 cap1] w fun e w' => e = .returned (.bool true) ∧ Below w.heap.size w w' := by
  have bv := bounds_i64 w0
  by_cases hv : a0 < 0
  · by_cases hbig : 1048576 < len1
    · refine law_big _ _ _ _ w hbig ?_
      rcases w1 with ⟨_, h, _, _⟩ | ⟨_, _, h, h', _⟩
      · omega
      · unfold maxLen at h'; omega
    · exact law_neg _ _ _ _ w (by omega) hv
  · rcases w1 with ⟨rfl, rfl, rfl, rfl⟩ | ⟨x, rfl, hl, hm, hz, hcell, hwz⟩
    · exact law_nil a0 w (by omega) (by omega)
    · unfold maxLen at hm
      by_cases hbig : 1048576 < len1
      · exact law_big _ _ _ _ w hbig (by omega)
      · have hlies := lies_of_cells hl hz hcell
        by_cases hbad : 0 < len1 ∧ ((48 ≤ (z1.take len1).getD 0 0 ∧ (z1.take len1).getD 0 0 ≤ 57) ∨ (z1.take len1).getD 0 0 = 46 ∨ (z1.take len1).getD 0 0 = 101 ∨ (z1.take len1).getD 0 0 = 69)
        · obtain ⟨hp, hb⟩ := hbad
          obtain ⟨b, off, hx, hc⟩ := hlies.at (by simp; omega)
          obtain rfl := Option.some.inj hx
          have hc0 := hc 0 (by simp; omega)
          rw [Nat.add_zero] at hc0
          exact law_bad a0 b off len1 cap1 _ w (by omega) (by omega) hp hc0 hb
        · exact law_main a0 _ x len1 cap1 (z1.take len1) w (by simp; omega) (by omega) (by omega) (by omega) hlies rfl (fun hp => by omega)

/-! ### THE ROW's STEP: WRITTEN OUT: LEAVE IT -/
set_option maxRecDepth 100000 in
theorem lifted (os : Os) (started : os.Started) (H : Type) (enc : TypeId × Value → H) :
    ReturnsInHanded {} Try.checked os 3 .any (Rows.fnReaderIntReadsBackDecimalSpec.pre6 enc Try.prog Try.f3 Rows.fnReaderIntReadsBackDecimalRow.domain false) (Rows.fnReaderIntReadsBackDecimalSpec.post enc Try.prog Try.f3 false true false false) := by
  refine returnsInHanded_of_change (C := Try.checked) own started (by kernel_rfl) Try.func3
    (ChangeSpec.witness6 (enc := enc) (C := Try.checked) false ⟨#[], #[.int .i64 0, .slice none 0 0], []⟩ 8 (by kernel_rfl) (by kernel_rfl) (by kernel_rfl) (by kernel_rfl)) ?_
  intro W base args ds gs before hval0 hW hcnd _
  have hval : ∀ (j : Nat) t v, Try.f3.params[j]? = some t → args[j]? = some v → Value.okWide Try.prog W .any base t v := hval0
  have hW' := hW
  obtain ⟨p, q, hA0, hV, rfl, hfz, hnd⟩ := hW
  have hA : DataW.TrodAll enc Try.prog W 0 (fun _ => true) true Try.f3.params.toList args.toList ds p := hA0
  rw [Try.params3] at hA hval
  obtain ⟨v0, vs0, d0, ds0, p0, q0, hargs, rfl, rfl, h0, r0⟩ := trodAll_cons hA
  obtain ⟨v1, vs1, d1, ds1, p1, q1, rfl, rfl, rfl, h1, r1⟩ := trodAll_cons r0
  obtain ⟨rfl, rfl, rfl⟩ := trodAll_nil r1
  obtain rfl : args = #[v0, v1] := by cases args; simp_all
  obtain ⟨rfl, rfl⟩ := trodVars_none hV
  obtain ⟨a0, rfl, rfl, rfl, w0⟩ := open_int Try.underlying2 (hval 0 2 v0 rfl rfl) h0
  obtain ⟨a1, len1, cap1, rfl⟩ := okWide_slice Try.underlying22 (hval 1 22 v1 rfl rfl)
  have k1 := h1
  have lt1 : ∀ x ∈ p1, x.block < W.heap.size := by obtain ⟨m, hm⟩ := k1; exact DataW.trod_lt m _ _ _ hm
  obtain ⟨z1, w1⟩ : ∃ zs, IsRow .u8 W a1 len1 cap1 zs := by
    obtain ⟨fuel, hf⟩ := h1
    rcases open_ints Try.underlying22 Try.underlying5 (by kernel_rfl) hf with ⟨hcs, _⟩ | ⟨x, l, c, zs, hcs, _, hl, hm, hz, _, hcell, hwz⟩
    · simp [Value.cells] at hcs
      obtain ⟨rfl, rfl, rfl⟩ := hcs
      exact ⟨[], .inl ⟨rfl, rfl, rfl, rfl⟩⟩
    · simp [Value.cells] at hcs
      obtain ⟨rfl, rfl, rfl⟩ := hcs
      exact ⟨zs, .inr ⟨_, rfl, hl, hm, by simpa using hz, hcell, hwz⟩⟩
  clear hA0 hval0
  refine (walk a0 a1 len1 cap1 z1 W w0 w1).mono fun e W' ⟨he, bel⟩ => ?_
  subst he
  exact ⟨_, rfl, _, _, _, [], _, [], hW', trodAll_mk1 (shut_bool Try.underlying4 _), (trodAll_cons_mk (shut_int Try.underlying2 w0) (trodAll_cons_mk (Below.trod laidOut (by kernel_rfl) (of_decide_eq_true (by kernel_rfl)) k1 bel lt1) trodAll_mk0)), rfl, bel.frame _, fun h => by cases h⟩

theorem over : Rows.fnReaderIntReadsBackDecimalRow.holds Try.pinned (OpenSpec.ofChange Rows.fnReaderIntReadsBackDecimalSpec) :=
  OpenClaim.holds_of_wide 3 Try.f3 rfl rfl rfl rfl rfl rfl rfl ⟨rfl, rfl, rfl, rfl, rfl⟩ rfl rfl rfl rfl rfl (by kernel_rfl) Try.func3 (by kernel_rfl)
    (of_decide_eq_true (by kernel_rfl)) (by unfold Func.isWrapper; first | (rw [if_pos (by decide +kernel)]; kernel_rfl) | (rw [if_neg (by decide +kernel)]; exact ⟨rfl, rfl⟩))
    (fun os started H enc _ => lifted os started H enc)

/-- ████ THE STATEMENT ████ -/
theorem proved : Rows.FnReaderIntReadsBackDecimalSaid := over
end Go.Proofs.Qxb6606318a.fnReaderIntReadsBackDecimal
