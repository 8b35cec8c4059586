/-
  The walk of (*Reader).Int over a row of digits and a tail.
-/
import Derived.Test.Qxb6606318aBase
import Derived.Test.Qxb6606318aPlain
namespace Go.Proofs.Qxb6606318a
open Go.ChangeShapes Go.WideShapes Go.ChangeAt Go.RowKit
set_option linter.unusedVariables false
set_option linter.unusedSimpArgs false

set_option maxHeartbeats 2000000 in
theorem int_any (gr gn g dl tl : Nat) (ds : List Int) (v t0 : Int) (w : World) (hdl : ds.length = dl) (hdec : Dec ds v) (hv : v ≤ 9223372036854775807) (htl : dl + tl ≤ 2097152)
    (hr : w.cell? ⟨gr, 0, none⟩ = some (.slice (some ⟨g, 0, none⟩) (dl + tl) (dl + tl))) (hrf : w.frozen? ⟨gr, 0, none⟩ = false)
    (hn : w.cell? ⟨gn, 0, none⟩ = some (.int .i64 (-1))) (hnf : w.frozen? ⟨gn, 0, none⟩ = false) (h1 : gn ≠ gr)
    (hd : ∀ i, i < dl → w.cell? ⟨g, i, none⟩ = some (.int .u8 (ds.getD i 0))) (ht : 0 < tl → w.cell? ⟨g, dl, none⟩ = some (.int .u8 t0))
    (ht0 : 0 < tl → (t0 < 48 ∨ 57 < t0) ∧ t0 ≠ 46 ∧ t0 ≠ 101 ∧ t0 ≠ 69) :
    Calls Try.prog 12 #[.pointer (some ⟨gr, 0, none⟩), .pointer (some ⟨gn, 0, none⟩)] w fun e w' => e = .returned (.bool true) ∧
      w' = (w.setCell ⟨gn, 0, none⟩ (.int .i64 v)).setCell ⟨gr, 0, none⟩ (.slice (some ⟨g, if tl = 0 then 0 else dl, none⟩) tl tl) := by
  have HDL := Hid.mk hdl
  have HDEC := Hid.mk hdec
  have HD := Hid.mk hd
  have HT := Hid.mk ht
  have HT0 := Hid.mk ht0
  have hpos : 0 < dl := by have := hdec.pos; omega
  clear hdl hdec hd ht ht0
  go_enter Try.func12, Try.ntmps12
  go_wp2
  go_loop [5, 6] (fun a i => ∃ k : Nat, k ≤ dl ∧ i = .int .i64 k ∧ a = .int .i64 (val (ds.take k))) (fun _ i => dl - (intOf i).toNat)
  case atStart => exact ⟨0, Nat.zero_le _, rfl, rfl⟩
  case round =>
    obtain ⟨k, hk, rfl, rfl⟩ := hrel
    have hA0 : 0 ≤ val (ds.take k) := val_nonneg _ (fun d hd => HDEC.out.digs d (List.mem_of_mem_take hd))
    by_cases hlt : k < dl
    · have hc := HD.out k hlt
      have hb := digs_getD ds HDEC.out.digs k (by rw [HDL.out]; exact hlt)
      have hle := val_take_le ds (k + 1) HDEC.out.digs
      rw [HDEC.out.eq] at hle
      have hs := val_take_succ ds k (by rw [HDL.out]; exact hlt)
      have hlen : (k : Int) < (dl : Int) + (tl : Int) := by omega
      generalize hA : val (ds.take k) = A at *
      generalize hB : val (ds.take (k + 1)) = B at *
      generalize hC : ds.getD k 0 = c at *
      have HB := Hid.mk hB
      have HS := Hid.mk hs
      have hov : A * 10 + (c - 48) ≤ 9223372036854775807 := by omega
      obtain ⟨hb1, hb2⟩ := hb
      clear hA hB hC hs hle
      go_wp2
      go_round
      case rel => exact ⟨k + 1, by omega, by go_num, by rw [HB.out, HS.out]⟩
      case measure => simp [intOf]; omega
    · obtain rfl : k = dl := by omega
      have hA : val (ds.take k) = v := by rw [List.take_of_length_le (by rw [HDL.out]; omega), HDEC.out.eq]
      rw [hA] at *
      clear hA
      have hc0 := HD.out 0 hpos
      have HD0 : Hid (1 < k → (ds.getD 0 0 == 48) = false) := fun h => by simpa using HDEC.out.lead (by rw [HDL.out]; exact h)
      generalize ds.getD 0 0 = c at *
      clear hA0 hk hlt
      by_cases hk1 : 1 < k
      · have hl0 := HD0.out hk1
        by_cases htz : tl = 0
        · subst htz
          simp only [Nat.add_zero] at *
          go_wp2
          go_ret
          exact ⟨rfl, rfl⟩
        · have htp : 0 < tl := by omega
          have htc := HT.out htp
          obtain ⟨hq, hq1, hq2, hq3⟩ := HT0.out htp
          have q1 : (t0 == 46) = false := by simpa using hq1
          have q2 : (t0 == 101) = false := by simpa using hq2
          have q3 : (t0 == 69) = false := by simpa using hq3
          have hlen : (k : Int) < (k : Int) + (tl : Int) := by omega
          have hsub : k + tl - k = tl := by omega
          have hne : ¬ k + tl = k := by omega
          clear hq1 hq2 hq3
          rcases hq with hq | hq
          · have dd : decide (48 ≤ t0) = false := by simp; omega
            go_wp2
            go_ret
            exact ⟨rfl, rfl⟩
          · have dd : decide (t0 ≤ 57) = false := by simp; omega
            go_wp2
            go_ret
            exact ⟨rfl, rfl⟩
      · obtain rfl : k = 1 := by omega
        by_cases htz : tl = 0
        · subst htz
          simp only [Nat.add_zero] at *
          go_wp2
          go_ret
          exact ⟨rfl, rfl⟩
        · have htp : 0 < tl := by omega
          have htc := HT.out htp
          obtain ⟨hq, hq1, hq2, hq3⟩ := HT0.out htp
          have q1 : (t0 == 46) = false := by simpa using hq1
          have q2 : (t0 == 101) = false := by simpa using hq2
          have q3 : (t0 == 69) = false := by simpa using hq3
          have hlen : (1 : Int) < (1 : Int) + (tl : Int) := by omega
          have hsub : 1 + tl - 1 = tl := by omega
          have hne : ¬ 1 + tl = 1 := by omega
          clear hq1 hq2 hq3
          rcases hq with hq | hq
          · have dd : decide (48 ≤ t0) = false := by simp; omega
            go_wp2
            go_ret
            exact ⟨rfl, rfl⟩
          · have dd : decide (t0 ≤ 57) = false := by simp; omega
            go_wp2
            go_ret
            exact ⟨rfl, rfl⟩
end Go.Proofs.Qxb6606318a
