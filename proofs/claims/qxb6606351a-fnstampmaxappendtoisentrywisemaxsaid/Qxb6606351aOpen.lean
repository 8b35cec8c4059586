/-
  The arguments as they came in, opened.
-/
import Derived.Test.Qxb6606351aLaw4
import Derived.Deep.SlicePairs
import Derived.OpenShut
import Derived.ChangeOld
namespace Go.Proofs.Qxb6606351a
open Go.ChangeShapes Go.WideShapes Go.ChangeAt Go.RowKit
set_option linter.unusedVariables false
set_option linter.unusedSimpArgs false

theorem Try.cells40 : Try.prog.cellsOf 40 = 2 := by kernel_rfl
theorem Try.cells24 : Try.prog.cellsOf 24 = 1 := by kernel_rfl
theorem Try.cells4 : Try.prog.cellsOf 4 = 1 := by kernel_rfl

section
variable {H : Type} {enc : TypeId × Value → H} {w : World}

theorem open_ents {fuel : Nat} {v : Value} {x : DataW H × List MemPlace} (h : DataW.trod enc Try.prog w 0 (fun _ => true) true fuel 24 [v] = some x) :
    ∃ a len cap es, v = .slice a len cap ∧ EntIn w a len cap es ∧ len ≤ 9223372036854775807 ∧ ∀ y ∈ es, (0 : Int) ≤ y.2 := by
  rcases Go.Deep.open_slice_pairs Try.underlying24 Try.underlying40 Try.cells40 rfl rfl (by kernel_rfl) (by kernel_rfl) h with ⟨hcs, _⟩ | ⟨ad, l, c, m, n, V0, V1, D0, D1, P0, P1, hcs, _, hl, hm, hmm, _, hx⟩
  · simp only [List.cons.injEq, and_true] at hcs
    exact ⟨none, 0, 0, [], hcs, ⟨rfl, Or.inl rfl, fun _ => ⟨rfl, rfl⟩⟩, by omega, fun y hy => by cases hy⟩
  · simp only [List.cons.injEq, and_true] at hcs
    have hlm : l ≤ m := by rw [hmm]; simp; omega
    obtain ⟨f, hf⟩ := Go.Deep.choose_lt (α := E) (n := l) (p := fun i e => w.cell? (ad.add (i * 2)) = some (.int .i64 e.1) ∧ w.cell? (ad.add (i * 2 + 1)) = some (.int .u64 e.2) ∧ 0 ≤ e.2) (fun i hi => by
      obtain ⟨h1, h2, h3, h4⟩ := hx i (by omega)
      obtain ⟨z0, e0, _, _⟩ := DataW.trod_int Try.underlying3 h3
      obtain ⟨z1, e1, _, q1⟩ := DataW.trod_int Try.underlying37 h4
      simp only [List.cons.injEq, and_true] at e0 e1
      rw [e0] at h1
      rw [e1] at h2
      exact ⟨(z0, z1), h1, h2, (bounds_u64 q1).1⟩)
    refine ⟨some ad, l, c, (List.range l).map f, hcs, ⟨by simp, ?_, fun e => by cases e⟩, by unfold maxLen at hm; omega, fun y hy => ?_⟩
    · by_cases h0 : l = 0
      · subst h0; exact Or.inl rfl
      · obtain ⟨b, o, spot⟩ := ad
        have hspot : spot = none := by simpa [Addr.add] using World.cell?_spot (hf 0 (by omega)).1
        subst hspot
        refine Or.inr ⟨b, o, rfl, fun i hi => ?_⟩
        rw [List.length_map, List.length_range] at hi
        obtain ⟨h1, h2, _⟩ := hf i hi
        rw [Addr.add_lit] at h1 h2
        have e : ((List.range l).map f).getD i (0, 0) = f i := by simp [List.getD, hi]
        rw [e]
        exact ⟨h1, by rw [Nat.add_assoc]; exact h2⟩
    · obtain ⟨i, hi, rfl⟩ := List.mem_map.1 hy
      exact (hf i (List.mem_range.1 hi)).2.2

theorem open_mat {fuel : Nat} {v : Value} {x : DataW H × List MemPlace} (h : DataW.trod enc Try.prog w 0 (fun _ => true) true fuel 22 [v] = some x) :
    ∃ a n cap L A C, v = .slice a n cap ∧ MatIn w a n cap L A C ∧ n ≤ 9223372036854775807 ∧ ∀ i, i < n → ∀ y ∈ L i, (0 : Int) ≤ y.2 := by
  rcases Go.Deep.open_slice1 Try.underlying22 Try.cells24 h with ⟨hcs, _⟩ | ⟨ad, l, c, m, n, V, D, Pl, hcs, _, hl, hm, hmm, _, hx⟩
  · simp only [List.cons.injEq, and_true] at hcs
    exact ⟨none, 0, 0, fun _ => [], fun _ => none, fun _ => 0, hcs, ⟨(fun h => by omega), (fun _ => ⟨rfl, rfl⟩), (fun i hi => by omega)⟩, by omega, fun i hi => by omega⟩
  · simp only [List.cons.injEq, and_true] at hcs
    have hlm : l ≤ m := by rw [hmm]; simp; omega
    obtain ⟨f, hf⟩ := Go.Deep.choose_lt (α := Option Addr × Nat × List E) (n := l) (p := fun i q => w.cell? (ad.add i) = some (.slice q.1 q.2.2.length q.2.1) ∧ EntIn w q.1 q.2.2.length q.2.1 q.2.2 ∧ q.2.2.length ≤ 9223372036854775807 ∧ ∀ y ∈ q.2.2, (0 : Int) ≤ y.2) (fun i hi => by
      obtain ⟨h1, h2⟩ := hx i (by omega)
      obtain ⟨a, len, cap, es, hv, hE, hlen, hpos⟩ := open_ents h2
      obtain rfl := hE.len
      rw [hv] at h1
      exact ⟨(a, cap, es), h1, hE, hlen, hpos⟩)
    refine ⟨some ad, l, c, fun i => (f i).2.2, fun i => (f i).1, fun i => (f i).2.1, hcs, ⟨fun h0 => ?_, (fun e => by cases e), fun i hi => (hf i hi).2.2.1⟩, by unfold maxLen at hm; omega, fun i hi => (hf i hi).2.2.2⟩
    obtain ⟨b, o, spot⟩ := ad
    have hspot : spot = none := by simpa [Addr.add] using World.cell?_spot (hf 0 (by omega)).1
    subst hspot
    refine ⟨b, o, rfl, fun i hi => ?_⟩
    obtain ⟨h1, h2, _, _⟩ := hf i hi
    rw [Addr.add_lit] at h1
    exact ⟨h1, h2.ents, h2.isNil⟩

theorem open_bls {fuel : Nat} {v : Value} {x : DataW H × List MemPlace} (h : DataW.trod enc Try.prog w 0 (fun _ => true) true fuel 23 [v] = some x) :
    ∃ a n cap F, v = .slice a n cap ∧ BoolsIn w a n F ∧ (a = none → n = 0 ∧ cap = 0) ∧ n ≤ 9223372036854775807 := by
  rcases Go.Deep.open_slice1 Try.underlying23 Try.cells4 h with ⟨hcs, _⟩ | ⟨ad, l, c, m, n, V, D, Pl, hcs, _, hl, hm, hmm, _, hx⟩
  · simp only [List.cons.injEq, and_true] at hcs
    exact ⟨none, 0, 0, fun _ => false, hcs, (fun h => by omega), (fun _ => ⟨rfl, rfl⟩), by omega⟩
  · simp only [List.cons.injEq, and_true] at hcs
    have hlm : l ≤ m := by rw [hmm]; simp; omega
    obtain ⟨f, hf⟩ := Go.Deep.choose_lt (α := Bool) (n := l) (p := fun i b => w.cell? (ad.add i) = some (.bool b)) (fun i hi => by
      obtain ⟨h1, h2⟩ := hx i (by omega)
      obtain ⟨b, e, _⟩ := DataW.trod_bool Try.underlying4 h2
      simp only [List.cons.injEq, and_true] at e
      rw [e] at h1
      exact ⟨b, h1⟩)
    refine ⟨some ad, l, c, f, hcs, fun h0 => ?_, (fun e => by cases e), by unfold maxLen at hm; omega⟩
    obtain ⟨b, o, spot⟩ := ad
    have hspot : spot = none := by simpa [Addr.add] using World.cell?_spot (hf 0 (by omega))
    subst hspot
    refine ⟨b, o, rfl, fun i hi => ?_⟩
    have h1 := hf i hi
    rw [Addr.add_lit] at h1
    exact h1
end
end Go.Proofs.Qxb6606351a
