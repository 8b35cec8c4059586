/-
  The walk of FnReaderIntReadsBackDecimal: a number that is not negative, a tail that does not go on with the number.
-/
import Derived.Test.Qxb6606318aLaw
namespace Go.Proofs.Qxb6606318a
open Go.ChangeShapes Go.WideShapes Go.ChangeAt Go.RowKit
set_option linter.unusedVariables false
set_option linter.unusedSimpArgs false

theorem Lies.cellAt {w : World} {g : Nat} {off : Nat} {zs : List Int} (h : Lies w (some ⟨g, off, none⟩) zs) (i : Nat) (hi : i < zs.length) : w.cell? ⟨g, off + i, none⟩ = some (.int .u8 (zs.getD i 0)) := by
  obtain ⟨b, o, e, hc⟩ := h.at (by omega)
  obtain ⟨rfl, rfl⟩ : g = b ∧ off = o := by simpa using e
  exact hc i hi

theorem below_drewN' {B : Nat} {w w' : World} (h : Below B w w') (n : Nat) : Below B w (w'.drewN n) := ⟨h.os, h.tape, h.output, h.size, h.block⟩

set_option maxHeartbeats 4000000 in
theorem law_main (v t0 : Int) (ad : Addr) (len cap : Nat) (zs : List Int) (w : World) (hz : zs.length = len) (h : len ≤ 1048576) (hv : 0 ≤ v) (hv2 : v ≤ 9223372036854775807)
    (hl : Lies w (some ad) zs) (ht0 : zs.getD 0 0 = t0) (hok : 0 < len → (t0 < 48 ∨ 57 < t0) ∧ t0 ≠ 46 ∧ t0 ≠ 101 ∧ t0 ≠ 69) :
    Calls Try.prog 3 #[.int .i64 v, .slice (some ad) len cap] w fun e w' => e = .returned (.bool true) ∧ Below w.heap.size w w' := by
  have HZ := Hid.mk hz
  have HL := Hid.mk hl
  have HOK := Hid.mk hok
  have HT0 := Hid.mk ht0
  have HMK := Hid.mk (fun n (h : n ≤ 2097152) => run_make_row' (P := Try.prog) 22 5 (.int .u8 0) 1 Try.underlying22 Try.info5 rfl .i64 .i64 n (by omega) (by omega))
  clear hz hl hok ht0
  go_enter Try.func3, Try.ntmps3
  by_cases hp : len = 0
  · have hp' : (len : Int) ≤ 0 := by omega
    clear hp
    go_wp2_with (first | (go_at_call 7; go_in) | (go_at_call 8; go_in))
    refine (clone_some ad len cap zs w HZ.out h HL.out).mono ?_
    rintro e w1 ⟨rfl, hl1, hb1⟩
    have HL1 := Hid.mk hl1
    clear hl1
    go_wp2_with fail
    refine (decimal_any v w1 hv hv2).mono ?_
    rintro e w2 ⟨ds, g, rfl, hdec, hds, hb2⟩
    have HDEC := Hid.mk hdec
    have HDS := Hid.mk hds
    have hdl19 := hdec.len
    have HL2 := Hid.mk (HL1.out.below hb2)
    have hbb : Below w.heap.size w w2 := hb1.trans (hb2.mono hb1.size)
    clear hdec hds hb1 hb2 HL1
    generalize hdl : ds.length = dl at *
    have HDL := Hid.mk hdl
    clear hdl
    have hmk := HMK.out (dl + len) (by omega)
    rw [show ((dl + len : Nat) : Int) = (dl : Int) + (len : Int) from by omega] at hmk
    have R0 := Hid.mk (World.rowIs_made w2 (.int .u8 0) (dl + len) 5)
    have hb0 : Below w2.heap.size w2 (w2.alloc (.cells (madeCells #[Value.int .u8 0] (dl + len)) 5)) := (Below.refl _ _).alloc (Nat.le_refl _) _

    have HDS1 : Hid (0 < dl → ∃ b o, g = b ∧ o = 0) := fun _ => ⟨g, 0, rfl, rfl⟩
    go_wp2
    go_loopw [7] (fun i wr => ∃ k : Nat, k ≤ dl ∧ i = .int .i64 k ∧ Hid (wr.rowIs w2.heap.size 5 (dl + len) (fun j => .int .u8 (if j < k then ds.getD j 0 else 0))) ∧ Below w2.heap.size w2 wr) (fun i _ => dl - (intOf i).toNat)
    case atStart => exact ⟨0, Nat.zero_le _, rfl, R0.out.congr (fun i hi => by simp), hb0⟩
    case round =>
      obtain ⟨k, hk, rfl, hrow, hb⟩ := hrel
      by_cases hlt : k < dl
      · have hlt' : k < dl + len := by omega
        have hcell := (HDS.out.below hb).cellAt k (by rw [HDL.out]; exact hlt)
        rw [Nat.zero_add] at hcell
        have hd := hrow.out.cell hlt'
        have hfz := hrow.out.frozen k
        have R1 := Hid.mk (hrow.out.set k (.int .u8 (ds.getD k 0)))
        have hb' : Below w2.heap.size w2 (wr.setCell ⟨w2.heap.size, k, none⟩ (.int .u8 (ds.getD k 0))) := hb.setCell (Nat.le_refl _) _
        generalize hx : ds.getD k 0 = c at *
        have HX := Hid.mk hx
        clear hx hmk hrow hb hb0
        go_wp2
        go_roundw
        case rel =>
          refine ⟨k + 1, by omega, by go_num, ?_, hb'⟩
          refine R1.out.congr fun j hj => ?_
          by_cases e : j = k
          · subst e; rw [if_pos rfl, if_pos (by omega), HX.out]
          · simp only [if_neg e]
            by_cases h : j < k
            · rw [if_pos h, if_pos (by omega)]
            · rw [if_neg h, if_neg (by omega)]
        case measure => simp [intOf]; omega
      · obtain ⟨wo, rfl⟩ : ∃ wo : World, wo = wr := ⟨_, rfl⟩
        clear R0 hb0 hmk
        go_wp2
        go_loopw [8] (fun i wr => ∃ k : Nat, k ≤ len ∧ i = .int .i64 k ∧ Hid (wr.rowIs w2.heap.size 5 (dl + len) (fun j => .int .u8 (if j < dl then ds.getD j 0 else if j < dl + k then zs.getD (j - dl) 0 else 0))) ∧ Below w2.heap.size w2 wr) (fun i _ => len - (intOf i).toNat)
        case atStart =>
          refine ⟨0, Nat.zero_le _, rfl, hrow.out.congr (fun i hi => ?_), hb⟩
          by_cases h : i < dl
          · rw [if_pos (by omega), if_pos h]
          · rw [if_neg (by omega), if_neg h, if_neg (by omega)]
        case round =>
          clear hrow hb
          obtain ⟨q, hq, rfl, hrow, hb⟩ := hrel
          by_cases hlq : q < len
          · omega
          · obtain rfl : len = q := by omega
            have HREST : Hid (Lies wr (some ⟨w2.heap.size, if len = 0 then 0 else dl, none⟩) zs) := by
              by_cases hz0 : len = 0
              · exact Or.inl (List.eq_nil_of_length_eq_zero (by rw [HZ.out, hz0]))
              · rw [if_neg hz0]
                refine lies_row hrow.out dl (by rw [HZ.out]; omega) fun i hi => ?_
                rw [HZ.out] at hi
                rw [if_neg (by omega), if_pos (by omega), Nat.add_sub_cancel_left]
            have HTAIL := Hid.mk (HL2.out.below hb)
            have hlt2 : w2.heap.size < wr.heap.size := hrow.out.lt
            have HD := Hid.mk (fun i (hi : i < dl) => (show wr.cell? ⟨w2.heap.size, i, none⟩ = some (.int .u8 (ds.getD i 0)) by rw [hrow.out.cell (by omega), if_pos hi]))
            have HT : Hid (0 < len → wr.cell? ⟨w2.heap.size, dl, none⟩ = some (.int .u8 t0)) := fun hp => by
              rw [hrow.out.cell (by omega), if_neg (by omega), if_pos (by omega), Nat.sub_self, HT0.out]
            have hfin : Below w.heap.size w wr := hbb.trans (hb.mono hbb.size)
            clear hrow hb HL2
            go_wp2_with (first | (go_at_call 11; go_in))
            have c1 : ∀ (o1 o2 : Obj) (a : Addr), a.block < wr.heap.size → ((wr.alloc o1).alloc o2).cell? a = wr.cell? a := fun o1 o2 a ha => by
              rw [World.cell?_alloc_lt _ _ _ (by simp; omega), World.cell?_alloc_lt _ _ _ ha]
            refine (int_any wr.heap.size (wr.heap.size + 1) w2.heap.size dl len ds v t0 _ HDL.out HDEC.out hv2 (by omega) ?_ ?_ ?_ ?_ (by omega) ?_ ?_ HOK.out).mono ?_
            · simp [go_sem]
            · simp [go_sem]
            · simp [go_sem]
            · simp [go_sem]
            · intro i hi
              rw [c1 _ _ _ hlt2]
              exact HD.out i hi
            · intro hp
              rw [c1 _ _ _ hlt2]
              exact HT.out hp
            rintro e w4 ⟨rfl, hw4⟩
            have cN : w4.cell? ⟨wr.heap.size + 1, 0, none⟩ = some (.int .i64 v) := by rw [hw4]; simp [go_sem]
            have cR : w4.cell? ⟨wr.heap.size, 0, none⟩ = some (.slice (some ⟨w2.heap.size, if len = 0 then 0 else dl, none⟩) len len) := by rw [hw4]; simp [go_sem]
            have hb4 : Below wr.heap.size wr w4 := by rw [hw4]; exact ((((Below.refl _ _).alloc (Nat.le_refl _) _).alloc (by simp) _).setCell (by simp) _).setCell (by simp) _
            have E1 := Hid.mk (HREST.out.below hb4)
            have E2 := Hid.mk (HTAIL.out.below hb4)
            have hend : Below w.heap.size w w4 := hfin.trans (hb4.mono hfin.size)
            clear hw4 hb4 hfin c1 HREST HTAIL
            generalize (if len = 0 then 0 else dl) = of at *
            go_wp2_with (first | (go_at_call 14; go_in))
            refine (equal_same _ _ len len len zs w4 HZ.out (by omega) E1.out E2.out).mono ?_
            rintro e w5 ⟨rfl, n, rfl⟩
            go_wp2
            go_ret
            exact ⟨ret_bool (by simp), below_drewN' hend n⟩
  · have hp' : (0 : Int) < (len : Int) := by omega
    obtain ⟨b, off, had, hc⟩ := HL.out.at (by rw [HZ.out]; omega)
    have hc0 := hc 0 (by rw [HZ.out]; omega)
    rw [Nat.add_zero, HT0.out] at hc0
    obtain ⟨hq, hq1, hq2, hq3⟩ := HOK.out (by omega)
    have q1 : (t0 == 46) = false := by simpa using hq1
    have q2 : (t0 == 101) = false := by simpa using hq2
    have q3 : (t0 == 69) = false := by simpa using hq3
    clear hq1 hq2 hq3 hc
    obtain rfl := Option.some.inj had
    clear had
    rcases hq with hq | hq
    · have dd : decide (48 ≤ t0) = false := by simp; omega
      go_wp2_with (first | (go_at_call 7; go_in) | (go_at_call 8; go_in))
      refine (clone_some ⟨b, off, none⟩ len cap zs w HZ.out h HL.out).mono ?_
      rintro e w1 ⟨rfl, hl1, hb1⟩
      have HL1 := Hid.mk hl1
      clear hl1
      go_wp2_with fail
      refine (decimal_any v w1 hv hv2).mono ?_
      rintro e w2 ⟨ds, g, rfl, hdec, hds, hb2⟩
      have HDEC := Hid.mk hdec
      have HDS := Hid.mk hds
      have hdl19 := hdec.len
      have HL2 := Hid.mk (HL1.out.below hb2)
      have hbb : Below w.heap.size w w2 := hb1.trans (hb2.mono hb1.size)
      clear hdec hds hb1 hb2 HL1
      generalize hdl : ds.length = dl at *
      have HDL := Hid.mk hdl
      clear hdl
      have hmk := HMK.out (dl + len) (by omega)
      rw [show ((dl + len : Nat) : Int) = (dl : Int) + (len : Int) from by omega] at hmk
      have R0 := Hid.mk (World.rowIs_made w2 (.int .u8 0) (dl + len) 5)
      have hb0 : Below w2.heap.size w2 (w2.alloc (.cells (madeCells #[Value.int .u8 0] (dl + len)) 5)) := (Below.refl _ _).alloc (Nat.le_refl _) _

      have HDS1 : Hid (0 < dl → ∃ b o, g = b ∧ o = 0) := fun _ => ⟨g, 0, rfl, rfl⟩
      go_wp2
      go_loopw [7] (fun i wr => ∃ k : Nat, k ≤ dl ∧ i = .int .i64 k ∧ Hid (wr.rowIs w2.heap.size 5 (dl + len) (fun j => .int .u8 (if j < k then ds.getD j 0 else 0))) ∧ Below w2.heap.size w2 wr) (fun i _ => dl - (intOf i).toNat)
      case atStart => exact ⟨0, Nat.zero_le _, rfl, R0.out.congr (fun i hi => by simp), hb0⟩
      case round =>
        obtain ⟨k, hk, rfl, hrow, hb⟩ := hrel
        by_cases hlt : k < dl
        · have hlt' : k < dl + len := by omega
          have hcell := (HDS.out.below hb).cellAt k (by rw [HDL.out]; exact hlt)
          rw [Nat.zero_add] at hcell
          have hd := hrow.out.cell hlt'
          have hfz := hrow.out.frozen k
          have R1 := Hid.mk (hrow.out.set k (.int .u8 (ds.getD k 0)))
          have hb' : Below w2.heap.size w2 (wr.setCell ⟨w2.heap.size, k, none⟩ (.int .u8 (ds.getD k 0))) := hb.setCell (Nat.le_refl _) _
          generalize hx : ds.getD k 0 = c at *
          have HX := Hid.mk hx
          clear hx hmk hrow hb hb0
          go_wp2
          go_roundw
          case rel =>
            refine ⟨k + 1, by omega, by go_num, ?_, hb'⟩
            refine R1.out.congr fun j hj => ?_
            by_cases e : j = k
            · subst e; rw [if_pos rfl, if_pos (by omega), HX.out]
            · simp only [if_neg e]
              by_cases h : j < k
              · rw [if_pos h, if_pos (by omega)]
              · rw [if_neg h, if_neg (by omega)]
          case measure => simp [intOf]; omega
        · obtain ⟨wo, rfl⟩ : ∃ wo : World, wo = wr := ⟨_, rfl⟩
          clear R0 hb0 hmk
          go_wp2
          go_loopw [8] (fun i wr => ∃ k : Nat, k ≤ len ∧ i = .int .i64 k ∧ Hid (wr.rowIs w2.heap.size 5 (dl + len) (fun j => .int .u8 (if j < dl then ds.getD j 0 else if j < dl + k then zs.getD (j - dl) 0 else 0))) ∧ Below w2.heap.size w2 wr) (fun i _ => len - (intOf i).toNat)
          case atStart =>
            refine ⟨0, Nat.zero_le _, rfl, hrow.out.congr (fun i hi => ?_), hb⟩
            by_cases h : i < dl
            · rw [if_pos (by omega), if_pos h]
            · rw [if_neg (by omega), if_neg h, if_neg (by omega)]
          case round =>
            clear hrow hb
            obtain ⟨q, hq, rfl, hrow, hb⟩ := hrel
            by_cases hlq : q < len
            · have hcell := (HL2.out.below hb).cellAt q (by rw [HZ.out]; exact hlq)
              rw [Nat.zero_add] at hcell
              have hdq : dl + q < dl + len := by omega
              have hdq' : (dl : Int) + (q : Int) < (dl : Int) + (len : Int) := by omega
              have hd := hrow.out.cell hdq
              have hfz := hrow.out.frozen (dl + q)
              have R1 := Hid.mk (hrow.out.set (dl + q) (.int .u8 (zs.getD q 0)))
              have hb' : Below w2.heap.size w2 (wr.setCell ⟨w2.heap.size, dl + q, none⟩ (.int .u8 (zs.getD q 0))) := hb.setCell (Nat.le_refl _) _
              generalize hx : zs.getD q 0 = c at *
              have HX := Hid.mk hx
              clear hx hrow hb
              go_wp2
              go_roundw
              case rel =>
                refine ⟨q + 1, by omega, by go_num, ?_, hb'⟩
                refine R1.out.congr fun j hj => ?_
                by_cases e : j = dl + q
                · subst e; rw [if_pos rfl, if_neg (by omega), if_pos (by omega), Nat.add_sub_cancel_left, HX.out]
                · simp only [if_neg e]
                  by_cases h : j < dl
                  · rw [if_pos h, if_pos h]
                  · rw [if_neg h, if_neg h]
                    by_cases h : j < dl + q
                    · rw [if_pos h, if_pos (by omega)]
                    · rw [if_neg h, if_neg (by omega)]
              case measure => simp [intOf]; omega
            · obtain rfl : len = q := by omega
              have HREST : Hid (Lies wr (some ⟨w2.heap.size, if len = 0 then 0 else dl, none⟩) zs) := by
                by_cases hz0 : len = 0
                · exact Or.inl (List.eq_nil_of_length_eq_zero (by rw [HZ.out, hz0]))
                · rw [if_neg hz0]
                  refine lies_row hrow.out dl (by rw [HZ.out]; omega) fun i hi => ?_
                  rw [HZ.out] at hi
                  rw [if_neg (by omega), if_pos (by omega), Nat.add_sub_cancel_left]
              have HTAIL := Hid.mk (HL2.out.below hb)
              have hlt2 : w2.heap.size < wr.heap.size := hrow.out.lt
              have HD := Hid.mk (fun i (hi : i < dl) => (show wr.cell? ⟨w2.heap.size, i, none⟩ = some (.int .u8 (ds.getD i 0)) by rw [hrow.out.cell (by omega), if_pos hi]))
              have HT : Hid (0 < len → wr.cell? ⟨w2.heap.size, dl, none⟩ = some (.int .u8 t0)) := fun hp => by
                rw [hrow.out.cell (by omega), if_neg (by omega), if_pos (by omega), Nat.sub_self, HT0.out]
              have hfin : Below w.heap.size w wr := hbb.trans (hb.mono hbb.size)
              clear hrow hb HL2
              go_wp2_with (first | (go_at_call 11; go_in))
              have c1 : ∀ (o1 o2 : Obj) (a : Addr), a.block < wr.heap.size → ((wr.alloc o1).alloc o2).cell? a = wr.cell? a := fun o1 o2 a ha => by
                rw [World.cell?_alloc_lt _ _ _ (by simp; omega), World.cell?_alloc_lt _ _ _ ha]
              refine (int_any wr.heap.size (wr.heap.size + 1) w2.heap.size dl len ds v t0 _ HDL.out HDEC.out hv2 (by omega) ?_ ?_ ?_ ?_ (by omega) ?_ ?_ HOK.out).mono ?_
              · simp [go_sem]
              · simp [go_sem]
              · simp [go_sem]
              · simp [go_sem]
              · intro i hi
                rw [c1 _ _ _ hlt2]
                exact HD.out i hi
              · intro hp
                rw [c1 _ _ _ hlt2]
                exact HT.out hp
              rintro e w4 ⟨rfl, hw4⟩
              have cN : w4.cell? ⟨wr.heap.size + 1, 0, none⟩ = some (.int .i64 v) := by rw [hw4]; simp [go_sem]
              have cR : w4.cell? ⟨wr.heap.size, 0, none⟩ = some (.slice (some ⟨w2.heap.size, if len = 0 then 0 else dl, none⟩) len len) := by rw [hw4]; simp [go_sem]
              have hb4 : Below wr.heap.size wr w4 := by rw [hw4]; exact ((((Below.refl _ _).alloc (Nat.le_refl _) _).alloc (by simp) _).setCell (by simp) _).setCell (by simp) _
              have E1 := Hid.mk (HREST.out.below hb4)
              have E2 := Hid.mk (HTAIL.out.below hb4)
              have hend : Below w.heap.size w w4 := hfin.trans (hb4.mono hfin.size)
              clear hw4 hb4 hfin c1 HREST HTAIL
              generalize (if len = 0 then 0 else dl) = of at *
              go_wp2_with (first | (go_at_call 14; go_in))
              refine (equal_same _ _ len len len zs w4 HZ.out (by omega) E1.out E2.out).mono ?_
              rintro e w5 ⟨rfl, n, rfl⟩
              go_wp2
              go_ret
              exact ⟨ret_bool (by simp), below_drewN' hend n⟩
    · have dd : decide (t0 ≤ 57) = false := by simp; omega
      go_wp2_with (first | (go_at_call 7; go_in) | (go_at_call 8; go_in))
      refine (clone_some ⟨b, off, none⟩ len cap zs w HZ.out h HL.out).mono ?_
      rintro e w1 ⟨rfl, hl1, hb1⟩
      have HL1 := Hid.mk hl1
      clear hl1
      go_wp2_with fail
      refine (decimal_any v w1 hv hv2).mono ?_
      rintro e w2 ⟨ds, g, rfl, hdec, hds, hb2⟩
      have HDEC := Hid.mk hdec
      have HDS := Hid.mk hds
      have hdl19 := hdec.len
      have HL2 := Hid.mk (HL1.out.below hb2)
      have hbb : Below w.heap.size w w2 := hb1.trans (hb2.mono hb1.size)
      clear hdec hds hb1 hb2 HL1
      generalize hdl : ds.length = dl at *
      have HDL := Hid.mk hdl
      clear hdl
      have hmk := HMK.out (dl + len) (by omega)
      rw [show ((dl + len : Nat) : Int) = (dl : Int) + (len : Int) from by omega] at hmk
      have R0 := Hid.mk (World.rowIs_made w2 (.int .u8 0) (dl + len) 5)
      have hb0 : Below w2.heap.size w2 (w2.alloc (.cells (madeCells #[Value.int .u8 0] (dl + len)) 5)) := (Below.refl _ _).alloc (Nat.le_refl _) _

      have HDS1 : Hid (0 < dl → ∃ b o, g = b ∧ o = 0) := fun _ => ⟨g, 0, rfl, rfl⟩
      go_wp2
      go_loopw [7] (fun i wr => ∃ k : Nat, k ≤ dl ∧ i = .int .i64 k ∧ Hid (wr.rowIs w2.heap.size 5 (dl + len) (fun j => .int .u8 (if j < k then ds.getD j 0 else 0))) ∧ Below w2.heap.size w2 wr) (fun i _ => dl - (intOf i).toNat)
      case atStart => exact ⟨0, Nat.zero_le _, rfl, R0.out.congr (fun i hi => by simp), hb0⟩
      case round =>
        obtain ⟨k, hk, rfl, hrow, hb⟩ := hrel
        by_cases hlt : k < dl
        · have hlt' : k < dl + len := by omega
          have hcell := (HDS.out.below hb).cellAt k (by rw [HDL.out]; exact hlt)
          rw [Nat.zero_add] at hcell
          have hd := hrow.out.cell hlt'
          have hfz := hrow.out.frozen k
          have R1 := Hid.mk (hrow.out.set k (.int .u8 (ds.getD k 0)))
          have hb' : Below w2.heap.size w2 (wr.setCell ⟨w2.heap.size, k, none⟩ (.int .u8 (ds.getD k 0))) := hb.setCell (Nat.le_refl _) _
          generalize hx : ds.getD k 0 = c at *
          have HX := Hid.mk hx
          clear hx hmk hrow hb hb0
          go_wp2
          go_roundw
          case rel =>
            refine ⟨k + 1, by omega, by go_num, ?_, hb'⟩
            refine R1.out.congr fun j hj => ?_
            by_cases e : j = k
            · subst e; rw [if_pos rfl, if_pos (by omega), HX.out]
            · simp only [if_neg e]
              by_cases h : j < k
              · rw [if_pos h, if_pos (by omega)]
              · rw [if_neg h, if_neg (by omega)]
          case measure => simp [intOf]; omega
        · obtain ⟨wo, rfl⟩ : ∃ wo : World, wo = wr := ⟨_, rfl⟩
          clear R0 hb0 hmk
          go_wp2
          go_loopw [8] (fun i wr => ∃ k : Nat, k ≤ len ∧ i = .int .i64 k ∧ Hid (wr.rowIs w2.heap.size 5 (dl + len) (fun j => .int .u8 (if j < dl then ds.getD j 0 else if j < dl + k then zs.getD (j - dl) 0 else 0))) ∧ Below w2.heap.size w2 wr) (fun i _ => len - (intOf i).toNat)
          case atStart =>
            refine ⟨0, Nat.zero_le _, rfl, hrow.out.congr (fun i hi => ?_), hb⟩
            by_cases h : i < dl
            · rw [if_pos (by omega), if_pos h]
            · rw [if_neg (by omega), if_neg h, if_neg (by omega)]
          case round =>
            clear hrow hb
            obtain ⟨q, hq, rfl, hrow, hb⟩ := hrel
            by_cases hlq : q < len
            · have hcell := (HL2.out.below hb).cellAt q (by rw [HZ.out]; exact hlq)
              rw [Nat.zero_add] at hcell
              have hdq : dl + q < dl + len := by omega
              have hdq' : (dl : Int) + (q : Int) < (dl : Int) + (len : Int) := by omega
              have hd := hrow.out.cell hdq
              have hfz := hrow.out.frozen (dl + q)
              have R1 := Hid.mk (hrow.out.set (dl + q) (.int .u8 (zs.getD q 0)))
              have hb' : Below w2.heap.size w2 (wr.setCell ⟨w2.heap.size, dl + q, none⟩ (.int .u8 (zs.getD q 0))) := hb.setCell (Nat.le_refl _) _
              generalize hx : zs.getD q 0 = c at *
              have HX := Hid.mk hx
              clear hx hrow hb
              go_wp2
              go_roundw
              case rel =>
                refine ⟨q + 1, by omega, by go_num, ?_, hb'⟩
                refine R1.out.congr fun j hj => ?_
                by_cases e : j = dl + q
                · subst e; rw [if_pos rfl, if_neg (by omega), if_pos (by omega), Nat.add_sub_cancel_left, HX.out]
                · simp only [if_neg e]
                  by_cases h : j < dl
                  · rw [if_pos h, if_pos h]
                  · rw [if_neg h, if_neg h]
                    by_cases h : j < dl + q
                    · rw [if_pos h, if_pos (by omega)]
                    · rw [if_neg h, if_neg (by omega)]
              case measure => simp [intOf]; omega
            · obtain rfl : len = q := by omega
              have HREST : Hid (Lies wr (some ⟨w2.heap.size, if len = 0 then 0 else dl, none⟩) zs) := by
                by_cases hz0 : len = 0
                · exact Or.inl (List.eq_nil_of_length_eq_zero (by rw [HZ.out, hz0]))
                · rw [if_neg hz0]
                  refine lies_row hrow.out dl (by rw [HZ.out]; omega) fun i hi => ?_
                  rw [HZ.out] at hi
                  rw [if_neg (by omega), if_pos (by omega), Nat.add_sub_cancel_left]
              have HTAIL := Hid.mk (HL2.out.below hb)
              have hlt2 : w2.heap.size < wr.heap.size := hrow.out.lt
              have HD := Hid.mk (fun i (hi : i < dl) => (show wr.cell? ⟨w2.heap.size, i, none⟩ = some (.int .u8 (ds.getD i 0)) by rw [hrow.out.cell (by omega), if_pos hi]))
              have HT : Hid (0 < len → wr.cell? ⟨w2.heap.size, dl, none⟩ = some (.int .u8 t0)) := fun hp => by
                rw [hrow.out.cell (by omega), if_neg (by omega), if_pos (by omega), Nat.sub_self, HT0.out]
              have hfin : Below w.heap.size w wr := hbb.trans (hb.mono hbb.size)
              clear hrow hb HL2
              go_wp2_with (first | (go_at_call 11; go_in))
              have c1 : ∀ (o1 o2 : Obj) (a : Addr), a.block < wr.heap.size → ((wr.alloc o1).alloc o2).cell? a = wr.cell? a := fun o1 o2 a ha => by
                rw [World.cell?_alloc_lt _ _ _ (by simp; omega), World.cell?_alloc_lt _ _ _ ha]
              refine (int_any wr.heap.size (wr.heap.size + 1) w2.heap.size dl len ds v t0 _ HDL.out HDEC.out hv2 (by omega) ?_ ?_ ?_ ?_ (by omega) ?_ ?_ HOK.out).mono ?_
              · simp [go_sem]
              · simp [go_sem]
              · simp [go_sem]
              · simp [go_sem]
              · intro i hi
                rw [c1 _ _ _ hlt2]
                exact HD.out i hi
              · intro hp
                rw [c1 _ _ _ hlt2]
                exact HT.out hp
              rintro e w4 ⟨rfl, hw4⟩
              have cN : w4.cell? ⟨wr.heap.size + 1, 0, none⟩ = some (.int .i64 v) := by rw [hw4]; simp [go_sem]
              have cR : w4.cell? ⟨wr.heap.size, 0, none⟩ = some (.slice (some ⟨w2.heap.size, if len = 0 then 0 else dl, none⟩) len len) := by rw [hw4]; simp [go_sem]
              have hb4 : Below wr.heap.size wr w4 := by rw [hw4]; exact ((((Below.refl _ _).alloc (Nat.le_refl _) _).alloc (by simp) _).setCell (by simp) _).setCell (by simp) _
              have E1 := Hid.mk (HREST.out.below hb4)
              have E2 := Hid.mk (HTAIL.out.below hb4)
              have hend : Below w.heap.size w w4 := hfin.trans (hb4.mono hfin.size)
              clear hw4 hb4 hfin c1 HREST HTAIL
              generalize (if len = 0 then 0 else dl) = of at *
              go_wp2_with (first | (go_at_call 14; go_in))
              refine (equal_same _ _ len len len zs w4 HZ.out (by omega) E1.out E2.out).mono ?_
              rintro e w5 ⟨rfl, n, rfl⟩
              go_wp2
              go_ret
              exact ⟨ret_bool (by simp), below_drewN' hend n⟩


set_option maxHeartbeats 4000000 in
theorem law_nil (v : Int) (w : World) (hv : 0 ≤ v) (hv2 : v ≤ 9223372036854775807) :
    Calls Try.prog 3 #[.int .i64 v, .slice none 0 0] w fun e w' => e = .returned (.bool true) ∧ Below w.heap.size w w' := by
  obtain ⟨zs, hzs⟩ : ∃ zs : List Int, zs = [] := ⟨_, rfl⟩
  obtain ⟨t0, ht0⟩ : ∃ t0 : Int, t0 = 0 := ⟨_, rfl⟩
  have HZ : Hid (zs.length = 0) := by show _ = _; rw [hzs]; rfl
  have HL : Hid (Lies w none zs) := Or.inl hzs
  have HT0 : Hid (zs.getD 0 0 = t0) := by show _ = _; rw [hzs, ht0]; rfl
  have HOK : Hid (0 < 0 → (t0 < 48 ∨ 57 < t0) ∧ t0 ≠ 46 ∧ t0 ≠ 101 ∧ t0 ≠ 69) := fun h => absurd h (Nat.lt_irrefl 0)
  have HMK := Hid.mk (fun n (h : n ≤ 2097152) => run_make_row' (P := Try.prog) 22 5 (.int .u8 0) 1 Try.underlying22 Try.info5 rfl .i64 .i64 n (by omega) (by omega))
  clear hzs ht0
  go_enter Try.func3, Try.ntmps3
  go_wp2_with (first | (go_at_call 7; go_in) | (go_at_call 8; go_in))
  refine (clone_none _).mono ?_
  rintro e w1 ⟨rfl, hw1⟩
  have HL1 : Hid (Lies w1 none zs) := by rw [hw1]; exact HL
  have hb1 : Below w.heap.size w w1 := by rw [hw1]; exact Below.refl _ _
  clear hw1
  go_wp2_with fail
  refine (decimal_any v w1 hv hv2).mono ?_
  rintro e w2 ⟨ds, g, rfl, hdec, hds, hb2⟩
  have HDEC := Hid.mk hdec
  have HDS := Hid.mk hds
  have hdl19 := hdec.len
  have HL2 := Hid.mk (HL1.out.below hb2)
  have hbb : Below w.heap.size w w2 := hb1.trans (hb2.mono hb1.size)
  clear hdec hds hb1 hb2 HL1
  generalize hdl : ds.length = dl at *
  have HDL := Hid.mk hdl
  clear hdl
  have hmk := HMK.out (dl + 0) (by omega)
  rw [Nat.add_zero] at hmk
  have R0 := Hid.mk (World.rowIs_made w2 (.int .u8 0) (dl + 0) 5)
  have hb0 : Below w2.heap.size w2 (w2.alloc (.cells (madeCells #[Value.int .u8 0] (dl + 0)) 5)) := (Below.refl _ _).alloc (Nat.le_refl _) _
  rw [Nat.add_zero] at R0 hb0
  have HDS1 : Hid (0 < dl → ∃ b o, g = b ∧ o = 0) := fun _ => ⟨g, 0, rfl, rfl⟩
  go_wp2
  go_loopw [7] (fun i wr => ∃ k : Nat, k ≤ dl ∧ i = .int .i64 k ∧ Hid (wr.rowIs w2.heap.size 5 (dl) (fun j => .int .u8 (if j < k then ds.getD j 0 else 0))) ∧ Below w2.heap.size w2 wr) (fun i _ => dl - (intOf i).toNat)
  case atStart => exact ⟨0, Nat.zero_le _, rfl, R0.out.congr (fun i hi => by simp), hb0⟩
  case round =>
    obtain ⟨k, hk, rfl, hrow, hb⟩ := hrel
    by_cases hlt : k < dl
    · have hlt' : k < dl := by omega
      have hcell := (HDS.out.below hb).cellAt k (by rw [HDL.out]; exact hlt)
      rw [Nat.zero_add] at hcell
      have hd := hrow.out.cell hlt'
      have hfz := hrow.out.frozen k
      have R1 := Hid.mk (hrow.out.set k (.int .u8 (ds.getD k 0)))
      have hb' : Below w2.heap.size w2 (wr.setCell ⟨w2.heap.size, k, none⟩ (.int .u8 (ds.getD k 0))) := hb.setCell (Nat.le_refl _) _
      generalize hx : ds.getD k 0 = c at *
      have HX := Hid.mk hx
      clear hx hmk hrow hb hb0
      go_wp2
      go_roundw
      case rel =>
        refine ⟨k + 1, by omega, by go_num, ?_, hb'⟩
        refine R1.out.congr fun j hj => ?_
        by_cases e : j = k
        · subst e; rw [if_pos rfl, if_pos (by omega), HX.out]
        · simp only [if_neg e]
          by_cases h : j < k
          · rw [if_pos h, if_pos (by omega)]
          · rw [if_neg h, if_neg (by omega)]
      case measure => simp [intOf]; omega
    · obtain ⟨wo, rfl⟩ : ∃ wo : World, wo = wr := ⟨_, rfl⟩
      clear R0 hb0 hmk
      go_wp2
      go_loopw [8] (fun i wr => ∃ k : Nat, k ≤ 0 ∧ i = .int .i64 k ∧ Hid (wr.rowIs w2.heap.size 5 (dl) (fun j => .int .u8 (if j < dl then ds.getD j 0 else if j < dl + k then zs.getD (j - dl) 0 else 0))) ∧ Below w2.heap.size w2 wr) (fun i _ => 0 - (intOf i).toNat)
      case atStart =>
        refine ⟨0, Nat.zero_le _, rfl, hrow.out.congr (fun i hi => ?_), hb⟩
        by_cases h : i < dl
        · rw [if_pos (by omega), if_pos h]
        · rw [if_neg (by omega), if_neg h, if_neg (by omega)]
      case round =>
        clear hrow hb
        obtain ⟨q, hq, rfl, hrow, hb⟩ := hrel
        by_cases hlq : q < 0
        · omega
        · obtain rfl : 0 = q := by omega
          have HREST : Hid (Lies wr (some ⟨w2.heap.size, 0, none⟩) zs) := Or.inl (List.eq_nil_of_length_eq_zero HZ.out)
          have HTAIL := Hid.mk (HL2.out.below hb)
          have hlt2 : w2.heap.size < wr.heap.size := hrow.out.lt
          have HD := Hid.mk (fun i (hi : i < dl) => (show wr.cell? ⟨w2.heap.size, i, none⟩ = some (.int .u8 (ds.getD i 0)) by rw [hrow.out.cell (by omega), if_pos hi]))
          have HT : Hid (0 < 0 → wr.cell? ⟨w2.heap.size, dl, none⟩ = some (.int .u8 t0)) := fun hp => by
            rw [hrow.out.cell (by omega), if_neg (by omega), if_pos (by omega), Nat.sub_self, HT0.out]
          have hfin : Below w.heap.size w wr := hbb.trans (hb.mono hbb.size)
          clear hrow hb HL2
          go_wp2_with (first | (go_at_call 11; go_in))
          have c1 : ∀ (o1 o2 : Obj) (a : Addr), a.block < wr.heap.size → ((wr.alloc o1).alloc o2).cell? a = wr.cell? a := fun o1 o2 a ha => by
            rw [World.cell?_alloc_lt _ _ _ (by simp; omega), World.cell?_alloc_lt _ _ _ ha]
          refine (int_any wr.heap.size (wr.heap.size + 1) w2.heap.size dl 0 ds v t0 _ HDL.out HDEC.out hv2 (by omega) ?_ ?_ ?_ ?_ (by omega) ?_ ?_ HOK.out).mono ?_
          · simp [go_sem]
          · simp [go_sem]
          · simp [go_sem]
          · simp [go_sem]
          · intro i hi
            rw [c1 _ _ _ hlt2]
            exact HD.out i hi
          · intro hp
            rw [c1 _ _ _ hlt2]
            exact HT.out hp
          rintro e w4 ⟨rfl, hw4⟩
          have cN : w4.cell? ⟨wr.heap.size + 1, 0, none⟩ = some (.int .i64 v) := by rw [hw4]; simp [go_sem]
          have cR : w4.cell? ⟨wr.heap.size, 0, none⟩ = some (.slice (some ⟨w2.heap.size, 0, none⟩) 0 0) := by rw [hw4]; simp [go_sem]
          have hb4 : Below wr.heap.size wr w4 := by rw [hw4]; exact ((((Below.refl _ _).alloc (Nat.le_refl _) _).alloc (by simp) _).setCell (by simp) _).setCell (by simp) _
          have E1 := Hid.mk (HREST.out.below hb4)
          have E2 := Hid.mk (HTAIL.out.below hb4)
          have hend : Below w.heap.size w w4 := hfin.trans (hb4.mono hfin.size)
          clear hw4 hb4 hfin c1 HREST HTAIL
          go_wp2_with (first | (go_at_call 14; go_in))
          refine (equal_same _ _ 0 0 0 zs w4 HZ.out (by omega) E1.out E2.out).mono ?_
          rintro e w5 ⟨rfl, n, rfl⟩
          go_wp2
          go_ret
          exact ⟨ret_bool (by simp), below_drewN' hend n⟩

end Go.Proofs.Qxb6606318a
