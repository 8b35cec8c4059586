/-
  Rows of bytes; worlds that part in known blocks alone; copy as one step of a region that draws its order.
-/
import Derived.Test.Qxb6606225aDoorRows
import Derived.WalkKit
import Derived.ProofKit
import Derived.Below
import Derived.Outline
import Derived.Deep.OwnRows
import Derived.WalkSpells
import Derived.Deep.QuietTactic
import Derived.BigQuiet
import Derived.Laws.CopyOwn
import Derived.Deep.RegionHeld3
namespace Go.Proofs.Qxb6606225aDoor
open Go.ChangeShapes Go.WideShapes Go.ChangeAt Go.RowKit
set_option linter.unusedVariables false
set_option linter.unusedSimpArgs false

theorem Hid.mk {p : Prop} (h : p) : Hid p := h
theorem Tryd.info5 : (Tryd.prog.info? 5).map (fun i => (i.zero, i.size, i.bytes)) = some (some (.int .u8 0), 1, 1) := by kernel_rfl
theorem Tryd.size5 : (Tryd.prog.info? 5).map (·.size) = some 1 := by kernel_rfl
theorem ret_bool {a b : Bool} (h : a = b) : Ending.returned (.bool a) = .returned (.bool b) := by rw [h]

/-- The numbers 'zs' lie behind the address 'a' (of an empty row nothing is said). -/
def Lies (w : World) (a : Option Addr) (zs : List Int) : Prop :=
  zs = [] ∨ ∃ b off, a = some ⟨b, off, none⟩ ∧ ∀ i, i < zs.length → w.cell? ⟨b, off + i, none⟩ = some (.int .u8 (zs.getD i 0))

theorem Lies.below {w w' : World} {a : Option Addr} {zs : List Int} (h : Lies w a zs) (hb : Below w.heap.size w w') : Lies w' a zs := by
  rcases h with h | ⟨b, off, ha, hc⟩
  · exact Or.inl h
  · refine Or.inr ⟨b, off, ha, fun i hi => ?_⟩
    have hx := hc i hi
    rw [hb.cell (p := ⟨b, off + i, none⟩) (World.block_lt_of_cell? w _ hx)]
    exact hx

theorem Lies.at {w : World} {a : Option Addr} {zs : List Int} (h : Lies w a zs) (hp : 0 < zs.length) : ∃ b off, a = some ⟨b, off, none⟩ ∧ ∀ i, i < zs.length → w.cell? ⟨b, off + i, none⟩ = some (.int .u8 (zs.getD i 0)) := by
  rcases h with h | h
  · subst h; simp at hp
  · exact h

theorem Lies.cellAt {w : World} {g : Nat} {off : Nat} {zs : List Int} (h : Lies w (some ⟨g, off, none⟩) zs) (i : Nat) (hi : i < zs.length) : w.cell? ⟨g, off + i, none⟩ = some (.int .u8 (zs.getD i 0)) := by
  obtain ⟨b, o, e, hc⟩ := h.at (by omega)
  obtain ⟨rfl, rfl⟩ : g = b ∧ off = o := by simpa using e
  exact hc i hi

/-- Block g alone may have turned. -/
structure Poke (g : Nat) (w w' : World) : Prop where
  os : w'.os = w.os
  tape : w'.tape = w.tape
  output : w'.output = w.output
  size : w'.heap.size = w.heap.size
  other : ∀ k, k ≠ g → w'.heap[k]? = w.heap[k]?

theorem Poke.refl (g : Nat) (w : World) : Poke g w w := ⟨rfl, rfl, rfl, rfl, fun _ _ => rfl⟩
theorem Poke.of_drew {g : Nat} {w w' : World} (h : Poke g w.drew w') : Poke g w w' := ⟨h.os, h.tape, h.output, h.size, h.other⟩
theorem poke_setRow (w : World) (g : Nat) (cs : Array Value) : Poke g w (w.setRow g cs) := ⟨rfl, rfl, rfl, by simp [World.setRow], fun k hk => setRow_other w g k cs hk⟩
theorem Poke.cell {g : Nat} {w w' : World} (h : Poke g w w') {a : Addr} (ha : a.block ≠ g) : w'.cell? a = w.cell? a := World.cell?_of_block (w := w) (h.other _ ha)
theorem Poke.frozen {g : Nat} {w w' : World} (h : Poke g w w') {a : Addr} (ha : a.block ≠ g) : w'.frozen? a = w.frozen? a := World.frozen?_of_block (w := w) (h.other _ ha)

/-- 'copy' AS ONE STEP OF A REGION THAT DRAWS ITS ORDER: the row behind it, and that no other block has turned. -/
theorem step_copy {P : Program} {ops : Array Oper} {o : Oper} {a : Act} {w : World} {K : Act → World → Prop} {Q : Exit → Act → World → Prop} {E : Prop} (hgd : o.guard = none) (d s : Operand) (dT sT : TypeId)
    (ho : o.op = .call { callee := .builtin .copy, args := #[d, s], argTypes := #[dT, sT] }) (elem : TypeId) (hu : P.underlying dT = some (.slice elem)) (hsz : (P.info? elem).map (·.size) = some 1)
    (dp sp : Option Addr) (dLen dCap sLen sCap : Nat) (hd : a.eval d = .slice dp dLen dCap) (hs : a.eval s = .slice sp sLen sCap)
    (g off : Nat) (cur : List Value) (t : TypeId) (hg : w.heap[g]? = some (.cells cur.toArray t (0, 0))) (cs : List Value) (hn : cs.length = Nat.min sLen dLen)
    (hpos : 0 < cs.length → dp = some ⟨g, off, none⟩ ∧ ∃ ad, sp = some ad ∧ ∀ j v, cs[j]? = some v → w.cell? (ad.add j) = some v)
    (hfit : off + cs.length ≤ cur.length) (h1 : ∀ v ∈ cs, v.oneCell' = true)
    (h : ∀ w', Hid (w'.heap[g]? = some (.cells (splice cur off cs).toArray t (0, 0))) → Hid (Poke g w w') → K (a.put o.dst (goInt cs.length)) w') :
    if Region.wanted o (yielded ops a.tmps) = true then Oper.wp P o a w K Q else E := by
  have hw : Region.wanted o (yielded ops a.tmps) = true := by simp [Region.wanted, hgd]
  rw [if_pos hw]
  by_cases h0 : cs.length = 0
  · obtain rfl : cs = [] := List.eq_nil_of_length_eq_zero h0
    have hrun := run_copy_none (P := P) w dT sT o.type elem dp sp dLen dCap sLen sCap hu hsz (by simpa using hn.symm)
    unfold Oper.wp
    simp [execOp, ho, resolve, invoke, builtin, hd, hs, hrun, Result.andThen]
    exact h w (show _ = _ by simpa [splice] using hg) (Poke.refl _ _)
  · obtain ⟨rfl, ad, rfl, hsrc⟩ := hpos (by omega)
    have hrun := run_copy_row (P := P) w dT sT o.type elem g off dLen dCap ad sLen sCap cur.toArray t cs hu hsz hg hn hsrc (by simpa using hfit) h1
    unfold Oper.wp
    simp [execOp, ho, resolve, invoke, builtin, hd, hs, hrun, Result.andThen]
    exact h _ (show _ = _ by simpa [splice] using setRow_heap w g _ _ t _ hg) (poke_setRow _ _ _)

end Go.Proofs.Qxb6606225aDoor
