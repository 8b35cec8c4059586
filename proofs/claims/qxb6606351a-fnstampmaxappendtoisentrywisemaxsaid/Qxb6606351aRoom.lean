/-
  The stampMax in memory; the walk of room.
-/
import Derived.Test.Qxb6606351aApp
namespace Go.Proofs.Qxb6606351a
open Go.ChangeShapes Go.WideShapes Go.ChangeAt Go.RowKit
set_option linter.unusedVariables false
set_option linter.unusedSimpArgs false

/-- Blocks outside X are as they were; the heap may have grown. -/
structure Kp (X : Nat → Prop) (w w' : World) : Prop where
  os : w'.os = w.os
  tape : w'.tape = w.tape
  output : w'.output = w.output
  size : w.heap.size ≤ w'.heap.size
  block : ∀ k, k < w.heap.size → ¬ X k → w'.heap[k]? = w.heap[k]?

theorem Kp.refl (X : Nat → Prop) (w : World) : Kp X w w := ⟨rfl, rfl, rfl, Nat.le_refl _, fun _ _ _ => rfl⟩
theorem Kp.trans {X : Nat → Prop} {a b c : World} (h : Kp X a b) (k : Kp X b c) : Kp X a c :=
  ⟨k.os.trans h.os, k.tape.trans h.tape, k.output.trans h.output, Nat.le_trans h.size k.size, fun i hi hx => (k.block i (Nat.lt_of_lt_of_le hi h.size) hx).trans (h.block i hi hx)⟩
theorem Kp.mono {X Y : Nat → Prop} {a b : World} (h : Kp X a b) (hxy : ∀ k, k < a.heap.size → X k → Y k) : Kp Y a b :=
  ⟨h.os, h.tape, h.output, h.size, fun i hi hy => h.block i hi (fun hx => hy (hxy i hi hx))⟩
theorem Kp.drewN {X : Nat → Prop} {a b : World} (h : Kp X a b) (n : Nat) : Kp X a (b.drewN n) := ⟨h.os, h.tape, h.output, h.size, h.block⟩
theorem Kp.drew {X : Nat → Prop} {a b : World} (h : Kp X a b) : Kp X a b.drew := ⟨h.os, h.tape, h.output, h.size, h.block⟩
theorem Kp.setCell {X : Nat → Prop} {a b : World} (h : Kp X a b) {p : Addr} (hp : X p.block) (v : Value) : Kp X a (b.setCell p v) :=
  h.trans ⟨rfl, rfl, rfl, by simp [World.setCell], fun k hk hx => Below.heap_setCell _ _ _ _ (fun e => hx (by rw [e]; exact hp))⟩
theorem Kp.grown {X : Nat → Prop} {a b c : World} {row : Option Nat} (h : Kp X a b) (hg : b.grownBy c row) (hx : ∀ k, row = some k → X k) : Kp X a c :=
  h.trans ⟨hg.os, hg.tape, hg.output, hg.size, fun k hk hk2 => hg.block k hk (fun e => hk2 (hx k e.symm))⟩
theorem Kp.cell {X : Nat → Prop} {w w' : World} (h : Kp X w w') {a : Addr} {v : Value} (ha : ¬ X a.block) (hv : w.cell? a = some v) : w'.cell? a = some v :=
  (World.cell?_of_block (w := w) (h.block _ (World.block_lt_of_cell? w _ hv) ha)).trans hv
theorem Kp.own {X : Nat → Prop} {w w' : World} (h : Kp X w w') {base : Nat} {e : TypeId} {size : Nat} {v : Value} {n : Nat} {xs : List Value} (ho : w.ownsRow base e size v n xs) (hx : ∀ k, v.ownBlock = some k → ¬ X k) : w'.ownsRow base e size v n xs := by
  refine ⟨ho.1, ?_⟩
  rcases ho.2 with h0 | ⟨g, cap, cur, rfl, hb, hg, h1⟩
  · exact Or.inl h0
  · exact Or.inr ⟨g, cap, cur, rfl, hb, (h.block g (Array.getElem?_eq_some_iff.1 hg).1 (hx g rfl)).trans hg, h1⟩
theorem Kp.rowIs {X : Nat → Prop} {w w' : World} (h : Kp X w w') {g n : Nat} {t : TypeId} {f : Nat → Value} (hr : w.rowIs g t n f) (hx : ¬ X g) : w'.rowIs g t n f := by
  obtain ⟨c, hc, h1⟩ := hr
  exact ⟨c, (h.block g (Array.getElem?_eq_some_iff.1 hc).1 hx).trans hc, h1⟩

/-- The five cells of a stampMax. -/
structure Sm (w : World) (gm : Nat) (lv fu la ad fr : Value) : Prop where
  c0 : w.cell? ⟨gm, 0, none⟩ = some lv
  c1 : w.cell? ⟨gm, 1, none⟩ = some fu
  c2 : w.cell? ⟨gm, 2, none⟩ = some la
  c3 : w.cell? ⟨gm, 3, none⟩ = some ad
  c4 : w.cell? ⟨gm, 4, none⟩ = some fr
  fz : ∀ j, w.frozen? ⟨gm, j, none⟩ = false

theorem Sm.kept {w w' : World} {gm : Nat} {lv fu la ad fr : Value} {X : Nat → Prop} (h : Sm w gm lv fu la ad fr) (hk : Kp X w w') (hx : ¬ X gm) : Sm w' gm lv fu la ad fr :=
  ⟨hk.cell hx h.c0, hk.cell hx h.c1, hk.cell hx h.c2, hk.cell hx h.c3, hk.cell hx h.c4, fun j => (World.frozen?_of_block (w := w) (a := ⟨gm, j, none⟩) (hk.block gm (World.block_lt_of_cell? w _ h.c0) hx)).trans (h.fz j)⟩

theorem cell_setCell_same (w : World) (g o : Nat) (v u : Value) (h : w.cell? ⟨g, o, none⟩ = some u) : (w.setCell ⟨g, o, none⟩ v).cell? ⟨g, o, none⟩ = some v := by
  simp only [World.cell?] at h
  cases hg : w.heap[g]? with
  | none => simp [hg] at h
  | some ob =>
    cases ob with
    | cells cs t fz =>
      simp only [hg] at h
      have ho : o < cs.size := by
        rcases Nat.lt_or_ge o cs.size with h' | h'
        · exact h'
        · simp [Array.getElem?_eq_none h'] at h
      simp [World.cell?, World.setCell, Array.getElem?_modify, hg, ho]
    | _ => simp [hg] at h

theorem cell_setCell_far (w : World) (g o o' : Nat) (v : Value) (h : o' ≠ o) : (w.setCell ⟨g, o, none⟩ v).cell? ⟨g, o', none⟩ = w.cell? ⟨g, o', none⟩ := by
  cases hg : w.heap[g]? with
  | none => simp [World.cell?, World.setCell, Array.getElem?_modify, hg]
  | some ob =>
    cases ob with
    | cells cs t fz => simp [World.cell?, World.setCell, Array.getElem?_modify, hg, h, Array.getElem?_setIfInBounds, Ne.symm h]
    | _ => simp [World.cell?, World.setCell, Array.getElem?_modify, hg]

theorem frozen_setCell (w : World) (p : Addr) (v : Value) (a : Addr) : (w.setCell p v).frozen? a = w.frozen? a := by
  by_cases h : a.block = p.block
  · cases hg : w.heap[p.block]? with
    | none => simp [World.frozen?, World.setCell, Array.getElem?_modify, h, hg]
    | some ob => cases ob <;> simp [World.frozen?, World.setCell, Array.getElem?_modify, h, hg]
  · exact World.frozen?_of_block (Below.heap_setCell w p v a.block h)

theorem Sm.free {w : World} {gm : Nat} {lv fu la ad fr : Value} (h : Sm w gm lv fu la ad fr) (fr' : Value) : Sm (w.setCell ⟨gm, 4, none⟩ fr') gm lv fu la ad fr' :=
  ⟨(cell_setCell_far _ _ _ _ _ (by omega)).trans h.c0, (cell_setCell_far _ _ _ _ _ (by omega)).trans h.c1, (cell_setCell_far _ _ _ _ _ (by omega)).trans h.c2, (cell_setCell_far _ _ _ _ _ (by omega)).trans h.c3,
    cell_setCell_same _ _ _ _ _ h.c4, fun j => (frozen_setCell _ _ _ _).trans (h.fz j)⟩
theorem Sm.last {w : World} {gm : Nat} {lv fu la ad fr : Value} (h : Sm w gm lv fu la ad fr) (la' : Value) : Sm (w.setCell ⟨gm, 2, none⟩ la') gm lv fu la' ad fr :=
  ⟨(cell_setCell_far _ _ _ _ _ (by omega)).trans h.c0, (cell_setCell_far _ _ _ _ _ (by omega)).trans h.c1, cell_setCell_same _ _ _ _ _ h.c2, (cell_setCell_far _ _ _ _ _ (by omega)).trans h.c3,
    (cell_setCell_far _ _ _ _ _ (by omega)).trans h.c4, fun j => (frozen_setCell _ _ _ _).trans (h.fz j)⟩
theorem Sm.added {w : World} {gm : Nat} {lv fu la ad fr : Value} (h : Sm w gm lv fu la ad fr) (ad' : Value) : Sm (w.setCell ⟨gm, 3, none⟩ ad') gm lv fu la ad' fr :=
  ⟨(cell_setCell_far _ _ _ _ _ (by omega)).trans h.c0, (cell_setCell_far _ _ _ _ _ (by omega)).trans h.c1, (cell_setCell_far _ _ _ _ _ (by omega)).trans h.c2, cell_setCell_same _ _ _ _ _ h.c3,
    (cell_setCell_far _ _ _ _ _ (by omega)).trans h.c4, fun j => (frozen_setCell _ _ _ _).trans (h.fz j)⟩

/-- What room answers. -/
def RoomDone (gm : Nat) (lv fu la ad fr : Value) (R : List Value) (w w' : World) (r fr1 : Value) (R1 : List Value) : Prop :=
  ((R = [] ∧ R1 = [] ∧ r = .slice none 0 0) ∨ R = R1 ++ [r]) ∧ Sm w' gm lv fu la ad fr1 ∧ w'.ownsRow 0 34 1 fr1 R1.length R1 ∧ fr1.ownBlock = fr.ownBlock ∧ Kp (fun k => k = gm) w w'

theorem own_prefix {w : World} {g n c : Nat} {R1 : List Value} {r : Value} {e : TypeId} (h : w.ownsRow 0 e 1 (.slice (some ⟨g, 0, none⟩) (n + 1) c) (n + 1) (R1 ++ [r])) (hn : R1.length = n) : w.ownsRow 0 e 1 (.slice (some ⟨g, 0, none⟩) n c) n R1 := by
  refine ⟨by rw [hn, Nat.mul_one], ?_⟩
  rcases h.2 with ⟨h0, _⟩ | ⟨g', cap, cur, hv, hb, hg, h1, h2, h3, h4⟩
  · cases h0
  · cases hv
    refine Or.inr ⟨g, c, cur, rfl, hb, hg, by omega, h2, h3, ?_⟩
    have := congrArg (List.take n) h4
    rw [List.take_take, Nat.min_eq_left (by omega)] at this
    rw [Nat.mul_one, this, ← hn, List.take_left]

set_option maxHeartbeats 1000000 in
theorem room_any (gm : Nat) (lv fu la ad fr : Value) (R : List Value) (w : World) (hs : Sm w gm lv fu la ad fr) (hf : w.ownsRow 0 34 1 fr R.length R) (hR : R.length ≤ 10000000) (hne : ∀ k, fr.ownBlock = some k → k ≠ gm) :
    Calls Try.prog 31 #[.pointer (some ⟨gm, 0, none⟩)] w fun e w' => ∃ r fr1 R1, e = .returned r ∧ RoomDone gm lv fu la ad fr R w w' r fr1 R1 := by
  have HS := Hid.mk hs
  have HF := Hid.mk hf
  have c4 := hs.c4
  have z4 := hs.fz 4
  rcases hf.2 with ⟨rfl, h0⟩ | ⟨g, cap, cur, rfl, hb, hg, h1, h2, h3, h4⟩
  · have HR0 := Hid.mk (List.eq_nil_of_length_eq_zero h0)
    clear hs hf h0 hR hne
    go_enter Try.func31, Try.ntmps31
    go_wp2
    go_ret
    refine ⟨_, _, [], rfl, Or.inl ⟨HR0.out, rfl, rfl⟩, HS.out, ?_, rfl, Kp.refl _ _⟩
    have := HF.out
    rw [HR0.out] at this
    exact this
  · rcases List.eq_nil_or_concat R with hR0 | ⟨R1, r, hR1⟩
    · subst hR0
      clear hs hf hR hne hb hg h1 h2 h3 h4
      go_enter Try.func31, Try.ntmps31
      go_wp2
      go_ret
      exact ⟨_, _, [], rfl, Or.inl ⟨rfl, rfl, rfl⟩, HS.out, HF.out, rfl, Kp.refl _ _⟩
    · rw [List.concat_eq_append] at hR1
      obtain ⟨n, hn⟩ : ∃ n, R1.length = n := ⟨_, rfl⟩
      have hlen : R.length = n + 1 := by rw [hR1, List.length_append, hn]; rfl
      have hcell : w.cell? ⟨g, n, none⟩ = some r := by
        have := hf.cells (g := g) rfl n r (by rw [hR1, List.getElem?_append_right (by omega)]; simp [hn])
        rw [Addr.add_lit, Nat.zero_add] at this
        exact this
      have HNE := Hid.mk (hne g rfl)
      have HR1 := Hid.mk hR1
      have HN := Hid.mk hn
      rw [hlen] at hR c4 h1
      have HLEN := Hid.mk hlen
      have HF' : Hid (w.ownsRow 0 34 1 (.slice (some ⟨g, 0, none⟩) (n + 1) cap) (n + 1) (R1 ++ [r])) := by
        have := hf
        rw [hlen, hR1] at this
        exact this
      have hcap : (n : Int) ≤ (cap : Int) := by omega
      clear hs hf hne hb hg h2 h3 h4 hlen hn hR1
      go_enter Try.func31, Try.ntmps31
      go_wp2
      go_ret
      refine ⟨_, .slice (some ⟨g, 0, none⟩) n cap, R1, rfl, Or.inr HR1.out, ?_, ?_, rfl, Kp.setCell (X := fun k => k = gm) (Kp.refl _ _) (p := ⟨gm, 4, none⟩) rfl _⟩
      · exact HS.out.free _
      · rw [HN.out]
        exact (Kp.setCell (X := fun k => k = gm) (Kp.refl _ w) (p := ⟨gm, 4, none⟩) rfl _).own (own_prefix HF'.out HN.out) (fun k hk => by obtain rfl := Option.some.inj hk; exact HNE.out)
end Go.Proofs.Qxb6606351a
