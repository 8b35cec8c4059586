/-
  The walk of frb1CloneAll.
-/
import Derived.Test.Qxb6606225aDoorZzb
namespace Go.Proofs.Qxb6606225aDoor
open Go.ChangeShapes Go.WideShapes Go.ChangeAt Go.RowKit
set_option linter.unusedVariables false
set_option linter.unusedSimpArgs false

theorem Tryd.info22 : (Tryd.prog.info? 22).map (fun i => (i.zero, i.size, i.bytes)) = some (some (.slice none 0 0), 1, 24) := by kernel_rfl

theorem call_none (w : World) :
    Calls Tryd.prog 13 #[.slice none 0 0] w fun e w' => e = .returned (.slice none 0 0) ∧ w' = w := by
  have hne := fun w' : World => Lib.run_eql_slice_nil (P := Tryd.prog) w' 36 22 none 0 0 0 0 Tryd.underlying36
  go_enter Tryd.func13, Tryd.ntmps13
  go_wp2
  go_ret
  exact ⟨rfl, rfl⟩

/-- The first k cells of the new row are copies, apart from the row itself. -/
def Cloned (w : World) (g : Nat) (L : List (List Int)) (f : Nat → Value) (k : Nat) : Prop :=
  ∀ j, j < k → ∃ ai ci, f j = .slice ai (L.getD j []).length ci ∧ Lies w ai (L.getD j []) ∧ (ai = none → (L.getD j []).length = 0 ∧ ci = 0) ∧ ∀ b o, ai = some ⟨b, o, none⟩ → b ≠ g

theorem Cloned.next {w w' : World} {g : Nat} {L : List (List Int)} {f : Nat → Value} {k : Nat} {ai : Option Addr} {ci : Nat} (h : Cloned w g L f k) (hb : Below w.heap.size w w') (hl : Lies w' ai (L.getD k [])) (hn : ai = none → (L.getD k []).length = 0 ∧ ci = 0) (hg : ∀ b o, ai = some ⟨b, o, none⟩ → b ≠ g) (v : Value) :
    Cloned (w'.setCell ⟨g, k, none⟩ v) g L (fun j => if j = k then .slice ai (L.getD k []).length ci else f j) (k + 1) := by
  have hk : Kp (fun b => b = g) w' (w'.setCell ⟨g, k, none⟩ v) := Kp.setCell (X := fun b => b = g) (Kp.refl _ w') (p := ⟨g, k, none⟩) rfl v
  intro j hj
  by_cases e : j = k
  · subst e
    exact ⟨ai, ci, if_pos rfl, hk.lies hl hg, hn, hg⟩
  · obtain ⟨aj, cj, h1, h2, h3, h4⟩ := h j (by omega)
    exact ⟨aj, cj, (if_neg e).trans h1, hk.lies (h2.below hb) h4, h3, h4⟩

set_option maxRecDepth 100000 in
set_option maxHeartbeats 2000000 in
theorem call_some (b off n cap : Nat) (L : List (List Int)) (w : World) (hz : L.length = n) (hn : n ≤ 1048576) (hb : Bods w b off L) (hlen : Short L) :
    Calls Tryd.prog 13 #[.slice (some ⟨b, off, none⟩) n cap] w fun e w' => e = .returned (.slice (some ⟨w.heap.size, 0, none⟩) n n) ∧ Bods w' w.heap.size 0 L ∧ Below w.heap.size w w' ∧ w.heap.size < w'.heap.size := by
  have hmk := run_make_row' (P := Tryd.prog) 36 22 (.slice none 0 0) 24 Tryd.underlying36 Tryd.info22 rfl .i64 .i64 n (by omega) (by omega)
  have hne := fun w' : World => Lib.run_eql_slice_nil (P := Tryd.prog) w' 36 22 (some ⟨b, off, none⟩) n cap 0 0 Tryd.underlying36
  have HZ := Hid.mk hz
  have HB := Hid.mk hb
  have HL := Hid.mk hlen
  clear hz hb hlen
  have hrow0 := Hid.mk (World.rowIs_made w (.slice none 0 0) n 22)
  have hb0 : Below w.heap.size w (w.alloc (.cells (madeCells #[Value.slice none 0 0] n) 22)) := (Below.refl _ _).alloc (Nat.le_refl _) _
  have HB0 := Hid.mk hb0
  clear hb0
  go_enter Tryd.func13, Tryd.ntmps13
  go_wp2
  go_loopw [4] (fun i wr => ∃ (k : Nat) (f : Nat → Value), k ≤ n ∧ i = .int .i64 k ∧ Hid (wr.rowIs w.heap.size 22 n f) ∧ Hid (Cloned wr w.heap.size L f k) ∧ Hid (Below w.heap.size w wr)) (fun i _ => n - (intOf i).toNat)
  case atStart => exact ⟨0, _, Nat.zero_le _, rfl, hrow0, fun j hj => by omega, HB0⟩
  case round =>
    obtain ⟨k, f, hk, rfl, hrow, hcl, hbe⟩ := hrel
    by_cases hlt : k < n
    · obtain ⟨ai, ci, hc, hli, hni⟩ := HB.out.below hbe.out k (by rw [HZ.out]; exact hlt)
      have hlk := HL.out k
      have hd := hrow.out.cell hlt
      have hfz := hrow.out.frozen k
      have HLI := Hid.mk hli
      have HNI := Hid.mk hni
      have hglt : w.heap.size < wr.heap.size := World.block_lt_of_cell? wr _ hd
      have hlt' : (k : Int) < (n : Int) := by omega
      clear hli hni
      obtain ⟨z, hze⟩ : ∃ z, L.getD k [] = z := ⟨_, rfl⟩
      rw [hze] at hc hlk
      have HZE := Hid.mk hze
      clear hze
      cases ai with
      | none =>
        obtain ⟨hz0, rfl⟩ := HNI.out rfl
        rw [HZE.out] at hz0
        rw [hz0] at hc
        have HZ0 := Hid.mk hz0
        clear hz0 hlk
        go_wp2_with fail
        refine (clone_none wr).mono ?_
        rintro e w1 ⟨rfl, hw1⟩
        obtain rfl : w1 = wr := hw1
        go_wp2
        go_roundw
        case rel =>
          refine ⟨k + 1, _, by omega, by go_num, hrow.out.set k _, ?_, hbe.out.setCell (Nat.le_refl _) _⟩
          have hz00 := HZ0.out
          have := hcl.out.next (ai := none) (ci := 0) (Below.refl _ _) HLI.out (fun _ => by rw [HZE.out, hz00]; exact ⟨rfl, rfl⟩) (fun b o e => by cases e) (.slice none 0 0)
          rw [HZE.out, hz00] at this
          exact this
        case measure => simp [intOf]; omega
      | some x =>
        go_wp2_with fail
        refine (clone_some x z.length ci z wr rfl hlk (by have := HLI.out; rw [HZE.out] at this; exact this)).mono ?_
        rintro e w1 ⟨rfl, hl1, hb1, hlt1⟩
        have HL1 := Hid.mk hl1
        have HB1 := Hid.mk hb1
        have hrow1 : w1.rowIs w.heap.size 22 n f := hrow.out.of_block (hb1.block _ hglt)
        have HR1 := Hid.mk hrow1
        have hd1 := hrow1.cell hlt
        have hfz1 := hrow1.frozen k
        have HBE1 := Hid.mk (hbe.out.trans (hb1.mono hbe.out.size))
        clear hl1 hb1 hrow1 hc hd hfz
        go_wp2
        go_roundw
        case rel =>
          refine ⟨k + 1, _, by omega, by go_num, HR1.out.set k _, ?_, HBE1.out.setCell (Nat.le_refl _) _⟩
          have := hcl.out.next (ai := some ⟨wr.heap.size, 0, none⟩) (ci := z.length) HB1.out (by rw [HZE.out]; exact HL1.out) (fun h => by cases h) (fun b o e => by have := blk_eq e; omega) (.slice (some ⟨wr.heap.size, 0, none⟩) z.length z.length)
          rw [HZE.out] at this
          exact this
        case measure => simp [intOf]; omega
    · go_wp2
      go_ret
      obtain rfl : k = n := by omega
      refine ⟨rfl, fun j hj => ?_, hbe.out, ?_⟩
      · rw [HZ.out] at hj
        obtain ⟨aj, cj, h1, h2, h3, h4⟩ := hcl.out j hj
        refine ⟨aj, cj, ?_, h2, h3⟩
        rw [Nat.zero_add, hrow.out.cell hj, h1]
      · obtain ⟨c, hc, _⟩ := hrow.out
        exact (Array.getElem?_eq_some_iff.1 hc).1
end Go.Proofs.Qxb6606225aDoor
