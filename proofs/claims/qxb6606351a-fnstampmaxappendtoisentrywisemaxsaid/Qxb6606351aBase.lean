/-
  Rows of entries (two cells each); what an append leaves.
-/
import Derived.Test.Qxb6606351aRows
import Derived.WalkKit
import Derived.ProofKit
import Derived.Below
import Derived.Outline
import Derived.Deep.OwnRows
import Derived.WalkSpells
import Derived.Deep.QuietTactic
import Derived.BigQuiet
import Derived.Deep.RegionHeld3
import Derived.Deep.AppendLies
import Derived.Maps.AppendAt
namespace Go.Proofs.Qxb6606351a
open Go.ChangeShapes Go.WideShapes Go.ChangeAt Go.RowKit
set_option linter.unusedVariables false
set_option linter.unusedSimpArgs false

theorem Hid.mk {p : Prop} (h : p) : Hid p := h
theorem ret_bool {a b : Bool} (h : a = b) : Ending.returned (.bool a) = .returned (.bool b) := by rw [h]

/-- An entry: a process, a counter. -/
abbrev E := Int × Int

/-- The cells of a row of entries. -/
def flat : List E → List Value
  | [] => []
  | x :: r => .int .i64 x.1 :: .int .u64 x.2 :: flat r

theorem flat_append (a b : List E) : flat (a ++ b) = flat a ++ flat b := by
  induction a with
  | nil => rfl
  | cons x r ih => simp only [List.cons_append, flat, ih]
theorem flat_length (a : List E) : (flat a).length = a.length * 2 := by
  induction a with
  | nil => rfl
  | cons x r ih => simp only [flat, List.length_cons, ih]; omega
theorem flat_get (a : List E) (i : Nat) (h : i < a.length) : (flat a)[i * 2]? = some (.int .i64 (a.getD i (0, 0)).1) ∧ (flat a)[i * 2 + 1]? = some (.int .u64 (a.getD i (0, 0)).2) := by
  induction a generalizing i with
  | nil => simp at h
  | cons x r ih =>
    cases i with
    | zero => simp [flat]
    | succ j =>
      have := ih j (by simpa using h)
      rw [show (j + 1) * 2 = j * 2 + 1 + 1 from by omega, show j * 2 + 1 + 1 + 1 = (j * 2 + 1) + 1 + 1 from by omega]
      simpa [flat] using this
theorem flat_drop (a : List E) (i : Nat) : (flat a).drop (i * 2) = flat (a.drop i) := by
  induction a generalizing i with
  | nil => simp [flat]
  | cons x r ih =>
    cases i with
    | zero => rfl
    | succ j => rw [show (j + 1) * 2 = j * 2 + 1 + 1 from by omega]; simp [flat, ih]
theorem flat_oneCell (a : List E) : ∀ u ∈ flat a, u.oneCell' = true := by
  induction a with
  | nil => intro u h; cases h
  | cons x r ih =>
    intro u h
    simp only [flat, List.mem_cons] at h
    rcases h with rfl | rfl | h
    · rfl
    · rfl
    · exact ih u h

/-- The entries lie behind the address 'a' (of an empty row nothing is said). -/
def Ents (w : World) (a : Option Addr) (es : List E) : Prop :=
  es = [] ∨ ∃ b off, a = some ⟨b, off, none⟩ ∧ ∀ i, i < es.length → w.cell? ⟨b, off + i * 2, none⟩ = some (.int .i64 (es.getD i (0, 0)).1) ∧ w.cell? ⟨b, off + i * 2 + 1, none⟩ = some (.int .u64 (es.getD i (0, 0)).2)

theorem Ents.at {w : World} {a : Option Addr} {es : List E} (h : Ents w a es) (hp : 0 < es.length) :
    ∃ b off, a = some ⟨b, off, none⟩ ∧ ∀ i, i < es.length → w.cell? ⟨b, off + i * 2, none⟩ = some (.int .i64 (es.getD i (0, 0)).1) ∧ w.cell? ⟨b, off + i * 2 + 1, none⟩ = some (.int .u64 (es.getD i (0, 0)).2) := by
  rcases h with h | h
  · subst h; simp at hp
  · exact h

theorem Ents.below {w w' : World} {a : Option Addr} {es : List E} (h : Ents w a es) (hb : Below w.heap.size w w') : Ents w' a es := by
  rcases h with h | ⟨b, off, ha, hc⟩
  · exact Or.inl h
  · refine Or.inr ⟨b, off, ha, fun i hi => ?_⟩
    obtain ⟨h1, h2⟩ := hc i hi
    rw [hb.cell (p := ⟨b, off + i * 2, none⟩) (World.block_lt_of_cell? w _ h1), hb.cell (p := ⟨b, off + i * 2 + 1, none⟩) (World.block_lt_of_cell? w _ h2)]
    exact ⟨h1, h2⟩

/-- What is kept where one row has grown. -/
theorem Ents.grown {w w' : World} {a : Option Addr} {es : List E} {row : Option Nat} (h : Ents w a es) (hg : w.grownBy w' row) (hne : ∀ b o, a = some ⟨b, o, none⟩ → some b ≠ row) : Ents w' a es := by
  rcases h with h | ⟨b, off, ha, hc⟩
  · exact Or.inl h
  · refine Or.inr ⟨b, off, ha, fun i hi => ?_⟩
    obtain ⟨h1, h2⟩ := hc i hi
    rw [hg.cell_far ⟨b, off + i * 2, none⟩ (World.block_lt_of_cell? w _ h1) (hne b off ha), hg.cell_far ⟨b, off + i * 2 + 1, none⟩ (World.block_lt_of_cell? w _ h2) (hne b off ha)]
    exact ⟨h1, h2⟩

theorem own_ents {w : World} {base g n c : Nat} {es : List E} {e : TypeId} (h : w.ownsRow base e 2 (.slice (some ⟨g, 0, none⟩) n c) n (flat es)) : Ents w (some ⟨g, 0, none⟩) es := by
  refine Or.inr ⟨g, 0, rfl, fun i hi => ?_⟩
  obtain ⟨h1, h2⟩ := flat_get es i hi
  have e1 := h.cells (g := g) rfl _ _ h1
  have e2 := h.cells (g := g) rfl _ _ h2
  rw [Addr.add_lit] at e1 e2
  refine ⟨e1, ?_⟩
  rw [Nat.add_assoc]
  exact e2

/-- The row 'v0' of w has grown on into the row 'v' of w'. -/
def Onto (w w' : World) (v0 v : Value) : Prop := w.grownBy w' v0.ownBlock ∧ (v.ownBlock = v0.ownBlock ∨ ∃ g, v.ownBlock = some g ∧ w.heap.size ≤ g)

theorem Onto.refl (w : World) (v : Value) : Onto w w v v := ⟨World.grownBy.refl _ _, Or.inl rfl⟩

theorem Onto.step {w w1 w2 : World} {v0 v v' : Value} (h : Onto w w1 v0 v) (hg : w1.grownBy w2 v.ownBlock) (hv : v'.ownBlock = v.ownBlock ∨ ∃ g, v'.ownBlock = some g ∧ w1.heap.size ≤ g) : Onto w w2 v0 v' := by
  obtain ⟨h1, h2⟩ := h
  refine ⟨⟨hg.os.trans h1.os, hg.tape.trans h1.tape, hg.output.trans h1.output, Nat.le_trans h1.size hg.size, fun k hk hne => ?_⟩, ?_⟩
  · rw [hg.block k (Nat.lt_of_lt_of_le hk h1.size) (fun e => ?_), h1.block k hk hne]
    rcases h2 with h2 | ⟨g, h2, hle⟩
    · exact hne (e.trans h2)
    · rw [h2] at e
      have := Option.some.inj e
      omega
  · rcases hv with hv | ⟨g, hv, hle⟩
    · rcases h2 with h2 | ⟨g, h2, hle⟩
      · exact Or.inl (hv.trans h2)
      · exact Or.inr ⟨g, hv.trans h2, hle⟩
    · exact Or.inr ⟨g, hv, Nat.le_trans h1.size hle⟩

theorem grownBy_alloc {w w' : World} {o : Obj} {row : Option Nat} (h : (w.alloc o).grownBy w' row) : w.grownBy w' row :=
  ⟨h.os, h.tape, h.output, Nat.le_trans (by simp) h.size, fun k hk hne => (h.block k (by simp; omega) hne).trans (Below.heap_alloc w o k hk)⟩

theorem Onto.stepAlloc {w w1 w2 : World} {o : Obj} {v0 v v' : Value} (h : Onto w w1 v0 v) (hg : (w1.alloc o).grownBy w2 v.ownBlock) (hv : v'.ownBlock = v.ownBlock ∨ v'.ownBlock = some (w1.heap.size + 1)) : Onto w w2 v0 v' :=
  h.step (grownBy_alloc hg) (hv.imp id fun e => ⟨_, e, by omega⟩)

theorem own_cap {w : World} {base : Nat} {e : TypeId} {size g n c : Nat} {xs : List Value} (h : w.ownsRow base e size (.slice (some ⟨g, 0, none⟩) n c) n xs) : n ≤ c := by
  rcases h.2 with ⟨h0, _⟩ | ⟨g', cap, cur, hv, hb, hg, h1, _⟩
  · cases h0
  · cases hv
    exact h1

theorem Try.info39 : (Try.prog.info? 39).map (fun i => (i.zero, i.size, i.bytes)) = some (some (.agg #[.int .i64 0, .int .u64 0]), 2, 16) := by kernel_rfl

/-! ### The merge, plain -/

def mrg : List E → List E → List E
  | [], b => b
  | x :: a, [] => x :: a
  | x :: a, y :: b => if x.1 < y.1 then x :: mrg a (y :: b) else if y.1 < x.1 then y :: mrg (x :: a) b else (x.1, if x.2 < y.2 then y.2 else x.2) :: mrg a b
termination_by a b => a.length + b.length

theorem mrg_nil_right (a : List E) : mrg a [] = a := by
  cases a <;> simp [mrg]
theorem mrg_nil_left (b : List E) : mrg [] b = b := by simp [mrg]
theorem mrg_length (a b : List E) : (mrg a b).length ≤ a.length + b.length := by
  fun_induction mrg a b <;> simp_all <;> omega

theorem drop_cons_getD (a : List E) (i : Nat) (h : i < a.length) : a.drop i = a.getD i (0, 0) :: a.drop (i + 1) := by
  rw [List.drop_eq_getElem_cons h]
  simp [List.getD, h]
end Go.Proofs.Qxb6606351a
