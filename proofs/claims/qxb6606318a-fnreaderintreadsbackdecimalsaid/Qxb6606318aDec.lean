/-
  The walk of zzDecimal.
-/
import Derived.Test.Qxb6606318aBase
import Derived.Test.Qxb6606318aPlain
namespace Go.Proofs.Qxb6606318a
open Go.ChangeShapes Go.WideShapes Go.ChangeAt Go.RowKit
set_option linter.unusedVariables false
set_option linter.unusedSimpArgs false

theorem ret_slice {a b : Nat} (x : Option Addr) (h : a = b) : Ending.returned (.slice x a a) = .returned (.slice x b b) := by rw [h]

/-- The array 'rev' behind some rounds: its first cells hold the low digits, the lowest first. -/
structure RevAt (w : World) (g : Nat) (rs : List Int) : Prop where
  ex : ∃ f, w.rowIs g 40 20 f ∧ (∀ i, i < rs.length → f i = .int .u8 (rs.getD (rs.length - 1 - i) 0)) ∧ ∀ i, ∃ x, f i = .int .u8 x

theorem RevAt.cell {w : World} {g : Nat} {rs : List Int} (h : RevAt w g rs) {i : Nat} (hi : i < 20) : ∃ x, w.cell? ⟨g, i, none⟩ = some (.int .u8 x) := by
  obtain ⟨f, hr, _, hx⟩ := h.ex
  obtain ⟨x, hx⟩ := hx i
  exact ⟨x, by rw [hr.cell hi, hx]⟩

theorem RevAt.frozen {w : World} {g : Nat} {rs : List Int} (h : RevAt w g rs) (i : Nat) : w.frozen? ⟨g, i, none⟩ = false := by
  obtain ⟨f, hr, _, hx⟩ := h.ex
  exact hr.frozen i

theorem RevAt.digit {w : World} {g : Nat} {rs : List Int} (h : RevAt w g rs) (hl : rs.length ≤ 20) {i : Nat} (hi : i < rs.length) : w.cell? ⟨g, i, none⟩ = some (.int .u8 (rs.getD (rs.length - 1 - i) 0)) := by
  obtain ⟨f, hr, hd, hx⟩ := h.ex
  rw [hr.cell (by omega), hd i hi]

theorem RevAt.push {w : World} {g : Nat} {rs : List Int} (h : RevAt w g rs) (d : Int) : RevAt (w.setCell ⟨g, rs.length, none⟩ (.int .u8 d)) g (d :: rs) := by
  obtain ⟨f, hr, hd, hx⟩ := h.ex
  refine ⟨_, hr.set rs.length (.int .u8 d), fun i hi => ?_, fun i => ?_⟩
  · simp at hi
    by_cases e : i = rs.length
    · subst e; simp
    · rw [if_neg e, hd i (by omega)]
      have e2 : (d :: rs).length - 1 - i = (rs.length - 1 - i) + 1 := by simp; omega
      rw [e2]
      simp [List.getD]
  · by_cases e : i = rs.length
    · exact ⟨d, by simp [e]⟩
    · obtain ⟨x, h⟩ := hx i
      exact ⟨x, by simp [e, h]⟩

theorem RevAt.block {w w' : World} {g : Nat} {rs : List Int} (h : RevAt w g rs) (e : w'.heap[g]? = w.heap[g]?) : RevAt w' g rs := by
  obtain ⟨f, hr, hd, hx⟩ := h.ex
  exact ⟨f, hr.of_block e, hd, hx⟩

theorem revAt_start (w : World) : RevAt (w.alloc (.cells (Array.replicate 20 (.int .u8 0)) 40)) w.heap.size [] := by
  refine ⟨fun _ => .int .u8 0, ?_, fun i hi => by simp at hi, fun i => ⟨0, rfl⟩⟩
  have := World.rowIs_alloc w (Array.replicate 20 (.int .u8 0)) 40 (fun _ => .int .u8 0) (by intro i hi; simp at hi; simp [hi])
  simpa using this

set_option maxHeartbeats 1000000 in
theorem decimal_any (v : Int) (w : World) (h0 : 0 ≤ v) (hv : v ≤ 9223372036854775807) :
    Calls Try.prog 10 #[.int .i64 v] w fun e w' => ∃ (ds : List Int) (g : Nat), e = .returned (.slice (some ⟨g, 0, none⟩) ds.length ds.length) ∧ Dec ds v ∧ Lies w' (some ⟨g, 0, none⟩) ds ∧ Below w.heap.size w w' := by
  have hmk := fun n (h : n ≤ 19) => run_make_row' (P := Try.prog) 22 5 (.int .u8 0) 1 Try.underlying22 Try.info5 rfl .i64 .i64 n (by omega) (by omega)
  have HMK := Hid.mk hmk
  clear hmk
  go_enter Try.func10, Try.ntmps10
  go_wp2
  go_loopw [4, 5] (fun n u wr => ∃ (rs : List Int) (x : Int), n = .int .i64 rs.length ∧ u = .int .u64 x ∧ Hid (Mid rs x v) ∧ Hid (RevAt wr w.heap.size rs) ∧ Below w.heap.size w wr) (fun _ u _ => (intOf u).toNat)
  case atStart => exact ⟨[], v, rfl, rfl, Mid.start v h0, revAt_start w, (Below.refl _ _).alloc (Nat.le_refl _) _⟩
  case round =>
    obtain ⟨rs, x, rfl, rfl, hmid, hrev, hb⟩ := hrel
    have hx0 : 0 ≤ x := hmid.out.nonneg
    have hlen := hmid.out.len hv
    have hxv : x ≤ 9223372036854775807 := Int.le_trans hmid.out.le hv
    obtain ⟨y, hcell⟩ := hrev.out.cell (i := rs.length) (by omega)
    have hfz := hrev.out.frozen rs.length
    have R1 := Hid.mk (hrev.out.push (48 + x % 10))
    generalize hn : rs.length = n at *
    have HN := Hid.mk hn
    clear hn
    have Hmid := Hid.mk hmid
    by_cases hq : x / 10 = 0
    · have DEC := Hid.mk (hmid.out.done hq hv)
      generalize hds : (48 + x % 10) :: rs = ds at *
      have HDS : Hid (ds.length = n + 1) := by show _ = _; rw [← hds, List.length_cons, HN.out]
      have hmk := HMK.out (n + 1) (by omega)
      rw [show ((n + 1 : Nat) : Int) = (n : Int) + 1 from by omega] at hmk
      clear hds
      have hG : w.heap.size < wr.heap.size := by
        have h3 := World.block_lt_of_cell? wr _ hcell
        exact h3
      have W0 := Hid.mk (R1.out.block (w' := (wr.setCell ⟨w.heap.size, n, none⟩ (.int .u8 (48 + x % 10))).alloc (.cells (madeCells #[Value.int .u8 0] (n + 1)) 5)) (Below.heap_alloc _ _ _ (by simpa using hG)))
      have W1 := Hid.mk (World.rowIs_made (wr.setCell ⟨w.heap.size, n, none⟩ (.int .u8 (48 + x % 10))) (.int .u8 0) (n + 1) 5)
      have W2 : Below w.heap.size w ((wr.setCell ⟨w.heap.size, n, none⟩ (.int .u8 (48 + x % 10))).alloc (.cells (madeCells #[Value.int .u8 0] (n + 1)) 5)) := (hb.setCell (Nat.le_refl _) _).alloc (by simpa using Nat.le_of_lt hG) _
      clear hmid hrev Hmid R1 HN
      obtain ⟨wo, rfl⟩ : ∃ wo : World, wo = wr := ⟨_, rfl⟩
      go_wp2
      go_loopw [7] (fun i wq => ∃ k : Nat, k ≤ n + 1 ∧ i = .int .i64 k ∧ Hid (RevAt wq w.heap.size ds) ∧ Hid (wq.rowIs wo.heap.size 5 (n + 1) (fun j => .int .u8 (if j < k then ds.getD j 0 else 0))) ∧ Below w.heap.size w wq) (fun i _ => n + 1 - (intOf i).toNat)
      case atStart => exact ⟨0, Nat.zero_le _, rfl, W0, by have := W1.out; simp at this; exact this.congr (fun i hi => by simp), W2⟩
      case round =>
        obtain ⟨k, hk, rfl, hrev, hout, hb3⟩ := hrel
        by_cases hlt : k < n + 1
        · have hd := hrev.out.digit (by rw [HDS.out]; omega) (i := n - k) (by rw [HDS.out]; omega)
          rw [HDS.out, show n + 1 - 1 - (n - k) = k from by omega] at hd
          have ho := hout.out.cell hlt
          have hf := hout.out.frozen k
          have R1 := Hid.mk (hout.out.set k (.int .u8 (ds.getD k 0)))
          have R2 := Hid.mk (hrev.out.block (w' := wr.setCell ⟨wo.heap.size, k, none⟩ (.int .u8 (ds.getD k 0))) (Below.heap_setCell _ _ _ _ (by show w.heap.size ≠ wo.heap.size; omega)))
          have hb4 : Below w.heap.size w (wr.setCell ⟨wo.heap.size, k, none⟩ (.int .u8 (ds.getD k 0))) := hb3.setCell (Nat.le_of_lt hG) _
          generalize hx : ds.getD k 0 = c at *
          have HX := Hid.mk hx
          clear hx hrev hout hcell hfz
          go_wp2
          go_roundw
          case rel =>
            refine ⟨k + 1, by omega, by go_num, R2, ?_, hb4⟩
            refine R1.out.congr fun j hj => ?_
            by_cases e : j = k
            · subst e; rw [if_pos rfl, if_pos (by omega), HX.out]
            · simp only [if_neg e]
              by_cases h : j < k
              · rw [if_pos h, if_pos (by omega)]
              · rw [if_neg h, if_neg (by omega)]
          case measure => simp [intOf]; omega
        · go_wp2
          go_ret
          refine ⟨ds, wo.heap.size, ret_slice _ HDS.out.symm, DEC.out, ?_, hb3⟩
          refine lies_row hout.out 0 (by rw [HDS.out]; omega) fun i hi => ?_
          rw [HDS.out] at hi
          simp only [Nat.zero_add]
          rw [if_pos (by omega)]
    · have hq' : 0 < x / 10 := by omega
      clear hq
      go_wp2
      go_roundw
      case rel => exact ⟨(48 + x % 10) :: rs, x / 10, by rw [List.length_cons, HN.out]; go_num, rfl, hmid.out.next (by omega), R1, hb.setCell (Nat.le_refl _) _⟩
      case measure => simp [intOf]; omega
end Go.Proofs.Qxb6606318a
