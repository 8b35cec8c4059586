/-
  The walk of FnReaderNextRoundTripsFrames at no bodies.
-/
import Derived.Test.Qxb6606225aDoorLaw2
namespace Go.Proofs.Qxb6606225aDoor
open Go.ChangeShapes Go.WideShapes Go.ChangeAt Go.RowKit
set_option linter.unusedVariables false
set_option linter.unusedSimpArgs false

set_option maxHeartbeats 1000000 in
theorem call_zero (a : Option Addr) (cap : Nat) (hc : a = none → cap = 0) (w : World) :
    Calls Tryd.prog 13 #[.slice a 0 cap] w fun e w' => (∃ a', e = .returned (.slice a' 0 0)) ∧ Below w.heap.size w w' := by
  cases a with
  | none =>
    obtain rfl := hc rfl
    refine (call_none w).mono ?_
    rintro e w' ⟨rfl, rfl⟩
    exact ⟨⟨_, rfl⟩, Below.refl _ _⟩
  | some x =>
    have hmk : ∀ w : World, (Instr.makeSlice 36 (.int .i64 0) (.int .i64 0)).run Tryd.prog w = .ok (.slice (some ⟨w.heap.size, 0, none⟩) 0 0) (w.alloc (.cells (madeCells #[.slice none 0 0] 0) 22)) := run_make_row' (P := Tryd.prog) 36 22 (.slice none 0 0) 24 Tryd.underlying36 Tryd.info22 rfl .i64 .i64 0 (by omega) (by omega)
    have hne := fun w' : World => Lib.run_eql_slice_nil (P := Tryd.prog) w' 36 22 (some x) 0 cap 0 0 Tryd.underlying36
    have hb0 : Below w.heap.size w (w.alloc (.cells (madeCells #[Value.slice none 0 0] 0) 22)) := (Below.refl _ _).alloc (Nat.le_refl _) _
    have HB0 := Hid.mk hb0
    clear hb0 hc
    go_enter Tryd.func13, Tryd.ntmps13
    go_wp2
    refine wp_loop_rounds 1 ?_; rw [rounds_succ]
    go_wp2
    go_ret
    exact ⟨⟨_, rfl⟩, HB0.out⟩

set_option maxRecDepth 100000 in
set_option maxHeartbeats 4000000 in
theorem law2_zero (a : Option Addr) (cap : Nat) (hc : a = none → cap = 0) (ms : Int) (w : World) (ea ua : Addr) (hm : ms ≤ 9223372036854775807) (hs : SenIn w ea ua) :
    Calls Tryd.prog 4 #[.slice a 0 cap, .int .i64 ms] w fun e w' => e = .returned (.bool true) ∧ Below w.heap.size w w' := by
  have HSN := Hid.mk hs
  have HC := Hid.mk hc
  obtain ⟨l0, l1⟩ := lim_bound ms hm
  have HLIM := Hid.mk (limit_any ms)
  have HMX : Hid (limOf ms = if ms ≤ 0 then 67108864 else ms) := rfl
  clear hs hc
  generalize limOf ms = mx at *
  go_enter Tryd.func4, Tryd.ntmps4
  go_wp2_with fail
  refine (zzb_zero a cap ms w).mono ?_
  rintro e w1 ⟨rfl, hw1⟩
  obtain rfl : w1 = w := hw1
  go_wp2
  refine wp_loop_rounds 1 ?_; rw [rounds_succ]
  go_wp2_with fail
  refine (call_zero a cap HC.out w1).mono ?_
  rintro e w2 ⟨⟨a', rfl⟩, hb2⟩
  have HB2 := Hid.mk hb2
  have HSN2 := Hid.mk (HSN.out.below hb2)
  clear hb2
  go_wp2
  refine wp_loop_rounds 1 ?_; rw [rounds_succ]
  have hnew := new_any none [] 0 ms mx w2 ea ua hm HMX.out (Nat.zero_le _) (Nat.le_refl _) (Or.inl rfl) (fun j => by simp) (fun b o e => by cases e) HSN2.out
  have HNEW := Hid.mk hnew
  clear hnew
  go_wp2_with fail
  refine HNEW.out.mono ?_
  rintro e w5 ⟨K, gF, rfl, ok, hsa, hS, hN, hbr, hfr, hsen, hb5, hX, hw5⟩
  have hK0 : K.N = 0 := hN
  have hle0 : K.le4 0 = 0 := by unfold Cfg.le4; rw [hS]; rfl
  have HNX := Hid.mk (zznext_ok K gF 0 mx w5 (next_any K ok gF mx 0 0 0 0 w5 hbr hfr hsen (by rw [hle0]; omega) ⟨l0, l1⟩ (Nat.le_trans HSN2.out.big (Nat.le_of_lt hw5))))
  have HK0 := Hid.mk hK0
  have HB5 := Hid.mk hb5
  have HX := Hid.mk hX
  clear ok hsa hS hN hbr hfr hsen hb5 hX HNEW hK0 hle0
  go_wp2_with fail
  refine (HLIM.out _ hm).mono ?_
  rintro e w55 ⟨rfl, hw55⟩
  obtain rfl : w55 = w5 := hw55
  go_wp2
  refine wp_loop_rounds 1 ?_; rw [rounds_succ]
  go_wp2_with fail
  refine HNX.out.mono ?_
  rintro e w6 ⟨hk6, ⟨h1, h2, m, g, o, c, h3, h4', rfl, hlies, r6, wd6, i6, hbr6⟩ | ⟨h1, t, x, rfl⟩⟩
  · exfalso
    rw [HK0.out] at h1
    omega
  · have HB6 := Hid.mk (HB5.out.trans (hk6.below HB5.out.size HX.out))
    have hnil := fun w' : World => Lib.run_eql_slice_nil (P := Tryd.prog) w' 22 5 none 0 0 0 0 Tryd.underlying22
    clear h1 hk6 HNX
    go_wp2
    go_ret
    exact ⟨rfl, HB2.out.trans (HB6.out.mono HB2.out.size)⟩
end Go.Proofs.Qxb6606225aDoor
