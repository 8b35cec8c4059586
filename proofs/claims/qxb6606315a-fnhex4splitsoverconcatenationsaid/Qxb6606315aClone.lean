/-
  The copy of a slice that came in, into a new row: one law for the walk.
-/
import Derived.Test.Qxb6606315aWalks
import Derived.Laws.CopyOwn
import Derived.Deep.OwnRows
import Derived.WalkSpells
namespace Go.Proofs.Qxb6606315a
open Go.ChangeShapes Go.WideShapes Go.ChangeAt Go.RowKit
set_option linter.unusedVariables false

theorem Try.info5 : (Try.prog.info? 5).map (fun i => (i.zero, i.size, i.bytes)) = some (some (.int .u8 0), 1, 1) := by kernel_rfl
theorem Try.size5 : (Try.prog.info? 5).map (·.size) = some 1 := by kernel_rfl

/-- A guard: the next operation is a call of the builtin copy. It turns nothing. -/
theorem at_copy {P : Program} {w : World} {ops : Array Oper} {rest : List Oper} {o : Oper} {a : Act} {Q : Exit → Act → World → Prop} (d s : Operand) (dT sT : TypeId)
    (ho : o.op = .call { callee := .builtin .copy, args := #[d, s], argTypes := #[dT, sT] }) (h : wpList P ops Q (o :: rest) a w) : wpList P ops Q (o :: rest) a w := h

theorem size_made (len : Nat) (z : Value) : (madeCells #[z] len).size = len := by simp [madeCells]

theorem splice_whole {α : Type} (L cs : List α) (h : L.length = cs.length) : splice L 0 cs = cs := by
  simp [splice, ← h]

/-- A row of numbers in a block of its own. -/
def RowIn (w : World) (g : Nat) (zs : List Int) : Prop := w.heap[g]? = some (.cells (zs.map (Value.int .u8)).toArray 5 (0, 0))

theorem RowIn.lies {w : World} {g : Nat} {zs : List Int} (h : RowIn w g zs) : Lies w (some ⟨g, 0, none⟩) zs := by
  refine Or.inr ⟨g, 0, rfl, fun i hi => ?_⟩
  unfold RowIn at h
  simp [World.cell?, h, List.getD, hi]

theorem RowIn.cell {w : World} {g : Nat} {zs : List Int} (h : RowIn w g zs) (i : Nat) (hi : i < zs.length) : w.cell? ⟨g, i, none⟩ = some (.int .u8 (zs.getD i 0)) := by
  unfold RowIn at h
  simp [World.cell?, h, List.getD, hi]

theorem RowIn.below {w w' : World} {g B : Nat} {zs : List Int} (h : RowIn w g zs) (hb : Below B w w') (hg : g < B) : RowIn w' g zs := by
  unfold RowIn at h ⊢
  rw [hb.block g hg, h]

theorem Lies.below {w w' : World} {a : Option Addr} {zs : List Int} (h : Lies w a zs) (hb : Below w.heap.size w w') : Lies w' a zs := by
  rcases h with h | ⟨b, off, ha, hc⟩
  · exact Or.inl h
  · refine Or.inr ⟨b, off, ha, fun i hi => ?_⟩
    have hx := hc i hi
    rw [hb.cell (p := ⟨b, off + i, none⟩) (World.block_lt_of_cell? w _ hx)]
    exact hx

/-- THE COPY INTO THE ROW THAT WAS MADE LAST. -/
theorem wpList_copy_clone {P : Program} (w : World) {ops : Array Oper} {rest : List Oper} {o : Oper} {a : Act} {Q : Exit → Act → World → Prop} (hgd : o.guard = none) (d s : Operand) (dT sT : TypeId)
    (ho : o.op = .call { callee := .builtin .copy, args := #[d, s], argTypes := #[dT, sT] }) (hu : P.underlying dT = some (.slice 5)) (hsz : (P.info? 5).map (·.size) = some 1)
    (sp : Option Addr) (len sCap : Nat) (hd : a.eval d = .slice (some ⟨w.heap.size, 0, none⟩) len len) (hs : a.eval s = .slice sp len sCap)
    (zs : List Int) (hz : Hid (zs.length = len)) (hl : Hid (Lies w sp zs))
    (h : ∀ w', RowIn w' w.heap.size zs → Below w.heap.size w w' → w.heap.size < w'.heap.size → wpList P ops Q rest (a.put o.dst (goInt len)) w') :
    wpList P ops Q (o :: rest) a (w.alloc (.cells (madeCells #[Value.int .u8 0] len) 5)) := by
  have hz' := hz.out
  have hb0 : Below w.heap.size w (w.alloc (.cells (madeCells #[Value.int .u8 0] len) 5)) := (Below.refl _ _).alloc (Nat.le_refl _) _
  refine wpList_copy_splice hgd d s dT sT ho 5 hu hsz (some ⟨w.heap.size, 0, none⟩) sp len len len sCap hd hs w.heap.size 0 (madeCells #[Value.int .u8 0] len).toList 5 ?_ (zs.map (Value.int .u8)) ?_ ?_ ?_ ?_ w.heap.size w hb0 (Nat.le_refl _) ?_
  · simpa using heap_alloc_new w (.cells (madeCells #[Value.int .u8 0] len) 5)
  · simp [hz']
  · intro hp
    refine ⟨rfl, ?_⟩
    rcases hl.out with h0 | ⟨b, off, rfl, hc⟩
    · subst h0; simp at hp
    · refine ⟨_, rfl, fun j v hj => ?_⟩
      simp only [List.getElem?_map, Option.map_eq_some_iff] at hj
      obtain ⟨x, hx, rfl⟩ := hj
      obtain ⟨hlt, hxe⟩ := List.getElem?_eq_some_iff.1 hx
      have h1 := hc j hlt
      have e : zs.getD j 0 = x := by simp [List.getD, hx]
      rw [e] at h1
      rw [Addr.add_lit, hb0.cell (p := ⟨b, off + j, none⟩) (World.block_lt_of_cell? w ⟨b, off + j, none⟩ h1)]
      exact h1
  · simp [size_made, hz']
  · exact ints_oneCell _ _
  · intro w' hg' hb'
    have e : splice (madeCells #[Value.int .u8 0] len).toList 0 (zs.map (Value.int .u8)) = zs.map (Value.int .u8) := splice_whole _ _ (by simp [size_made, hz'])
    have hrow : RowIn w' w.heap.size zs := by
      have := hg'.out
      rw [e] at this
      exact this
    have hlt : w.heap.size < w'.heap.size := by
      have h3 : w'.heap[w.heap.size]? = _ := hrow
      exact (Array.getElem?_eq_some_iff.1 h3).1
    have := h w' hrow hb' hlt
    simpa [hz'] using this

theorem lies_of_cells {w : World} {x : Addr} {len cap : Nat} {z0 : List Int} (hl : len ≤ cap) (hz : z0.length = cap) (hcell : ∀ i, i < z0.length → w.cell? (x.add i) = some (.int .u8 (z0.getD i 0))) :
    ∃ a, some x = a ∧ Lies w a (z0.take len) ∧ (0 < len → ∃ b off, a = some ⟨b, off, none⟩) := by
  refine ⟨_, rfl, ?_⟩
  by_cases h0 : len = 0
  · subst h0
    exact ⟨Or.inl (by simp), fun h => by omega⟩
  · obtain ⟨b, off, spot⟩ := x
    have hc := hcell 0 (by omega)
    have hspot : spot = none := by simpa [Addr.add] using World.cell?_spot hc
    subst hspot
    refine ⟨Or.inr ⟨b, off, rfl, fun i hi => ?_⟩, fun _ => ⟨b, off, rfl⟩⟩
    simp at hi
    have := hcell i (by omega)
    rw [Addr.add_lit] at this
    rw [this]
    have hi' : i < len := by omega
    simp [List.getD, hi']

end Go.Proofs.Qxb6606315a
