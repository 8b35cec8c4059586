/-
  The walk of zzCloneBools.
-/
import Derived.Test.Qxb6606351aTos
namespace Go.Proofs.Qxb6606351a
open Go.ChangeShapes Go.WideShapes Go.ChangeAt Go.RowKit
set_option linter.unusedVariables false
set_option linter.unusedSimpArgs false

theorem Try.info4 : (Try.prog.info? 4).map (fun i => (i.zero, i.size, i.bytes)) = some (some (.bool false), 1, 1) := by kernel_rfl

theorem clb_none (w : World) :
    Calls Try.prog 11 #[.slice none 0 0] w fun e w' => e = .returned (.slice none 0 0) ∧ w' = w := by
  have hne := fun w' : World => Lib.run_eql_slice_nil (P := Try.prog) w' 23 4 none 0 0 0 0 Try.underlying23
  go_enter Try.func11, Try.ntmps11
  go_wp2
  go_ret
  exact ⟨rfl, rfl⟩

set_option maxHeartbeats 1000000 in
theorem clb_some (ad : Addr) (n cap : Nat) (F : Nat → Bool) (w : World) (hn : n ≤ 1048576) (hc : 0 < n → ∃ b o, ad = ⟨b, o, none⟩ ∧ ∀ i, i < n → w.cell? ⟨b, o + i, none⟩ = some (.bool (F i))) :
    Calls Try.prog 11 #[.slice (some ad) n cap] w fun e w' => e = .returned (.slice (some ⟨w.heap.size, 0, none⟩) n n) ∧ w'.rowIs w.heap.size 4 n (fun i => .bool (F i)) ∧ Below w.heap.size w w' := by
  have hmk := run_make_row' (P := Try.prog) 23 4 (.bool false) 1 Try.underlying23 Try.info4 rfl .i64 .i64 n (by omega) (by omega)
  have hne := fun w' : World => Lib.run_eql_slice_nil (P := Try.prog) w' 23 4 (some ad) n cap 0 0 Try.underlying23
  have HC := Hid.mk hc
  clear hc
  have hrow0 := Hid.mk (World.rowIs_made w (.bool false) n 4)
  have hb0 : Hid (Below w.heap.size w (w.alloc (.cells (madeCells #[Value.bool false] n) 4))) := (Below.refl _ _).alloc (Nat.le_refl _) _
  go_enter Try.func11, Try.ntmps11
  go_wp2
  go_loopw [4] (fun i wr => ∃ k : Nat, k ≤ n ∧ i = .int .i64 k ∧ Hid (wr.rowIs w.heap.size 4 n (fun j => .bool (if j < k then F j else false))) ∧ Hid (Below w.heap.size w wr)) (fun i _ => n - (intOf i).toNat)
  case atStart => exact ⟨0, Nat.zero_le _, rfl, hrow0.out.congr (fun i hi => by simp), hb0⟩
  case round =>
    obtain ⟨k, hk, rfl, hrow, hb⟩ := hrel
    by_cases hlt : k < n
    · have hlt' : (k : Int) < (n : Int) := by omega
      obtain ⟨b, o, rfl, hc⟩ := HC.out (by omega)
      have hcell := hc k hlt
      have hcell' := (hb.out.cell (p := ⟨b, o + k, none⟩) (World.block_lt_of_cell? w _ hcell)).trans hcell
      have hd := hrow.out.cell hlt
      have hfz := hrow.out.frozen k
      have R1 := Hid.mk (hrow.out.set k (.bool (F k)))
      clear hc hcell
      obtain ⟨c, hx⟩ : ∃ c, F k = c := ⟨_, rfl⟩
      rw [hx] at hcell'
      have HX := Hid.mk hx
      clear hx
      go_wp2
      go_roundw
      case rel =>
        refine ⟨k + 1, by omega, by go_num, ?_, hb.out.setCell (Nat.le_refl _) _⟩
        have h9 := R1.out
        rw [HX.out] at h9
        refine h9.congr fun j hj => ?_
        by_cases e : j = k
        · subst e; rw [if_pos rfl, if_pos (by omega), HX.out]
        · simp only [if_neg e]
          by_cases h : j < k
          · rw [if_pos h, if_pos (by omega)]
          · rw [if_neg h, if_neg (by omega)]
      case measure => simp [intOf]; omega
    · obtain rfl : n = k := by omega
      go_wp2
      go_ret
      exact ⟨rfl, hrow.out.congr (fun i hi => by rw [if_pos hi]), hb.out⟩
end Go.Proofs.Qxb6606351a
