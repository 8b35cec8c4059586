/-
  The walk of FnReaderNextFirstFrameMatchesSpec.
-/
import Derived.Test.Qxb6606225aDoorLawParts
namespace Go.Proofs.Qxb6606225aDoor
open Go.ChangeShapes Go.WideShapes Go.ChangeAt Go.RowKit
set_option linter.unusedVariables false
set_option linter.unusedSimpArgs false

theorem law1_big (a : Option Addr) (len cap : Nat) (ms : Int) (w : World) (h : 1048576 < len) (hm : len ≤ 9223372036854775807) :
    Calls Tryd.prog 3 #[.slice a len cap, .int .i64 ms] w fun e w' => e = .returned (.bool true) ∧ Below w.heap.size w w' := by
  go_enter Tryd.func3, Tryd.ntmps3
  go_wp2
  go_ret
  exact ⟨rfl, Below.refl _ _⟩

/-- The limit that a Reader takes for maxSize. -/
def limOf (ms : Int) : Int := if ms ≤ 0 then 67108864 else ms

theorem limit_any (ms : Int) (w : World) (hm : ms ≤ 9223372036854775807) :
    Calls Tryd.prog 7 #[.int .i64 ms] w fun e w' => e = .returned (.int .u64 (limOf ms)) ∧ w' = w := by
  by_cases h : ms ≤ 0
  · rw [limOf, if_pos h]
    go_enter Tryd.func7, Tryd.ntmps7
    go_wp2
    go_ret
    exact ⟨rfl, rfl⟩
  · rw [limOf, if_neg h]
    have h1 : 0 < ms := by omega
    go_enter Tryd.func7, Tryd.ntmps7
    go_wp2
    go_ret
    exact ⟨rfl, rfl⟩

theorem lim_bound (ms : Int) (hm : ms ≤ 9223372036854775807) : 0 ≤ limOf ms ∧ limOf ms ≤ 9223372036854775807 := by
  unfold limOf
  split <;> omega

theorem le4_short (S : List Int) (v : Int) (hby : ∀ j, 0 ≤ S.getD j 0 ∧ S.getD j 0 ≤ 255) (hv : le4 S = v) (h : S.length < 4) : v ≤ 16777215 := by
  have h3 : S.getD 3 0 = 0 := by rw [List.getD, List.getElem?_eq_none (by omega)]; rfl
  have h0 := hby 0
  have h1 := hby 1
  have h2 := hby 2
  rw [← hv]
  unfold le4
  omega

theorem blk_eq {g o' b o : Nat} (h : (some ⟨g, o', none⟩ : Option Addr) = some ⟨b, o, none⟩) : g = b := by
  have := Option.some.inj h
  injection this

set_option maxRecDepth 100000 in
set_option maxHeartbeats 4000000 in
theorem law1_some (ad : Addr) (len cap : Nat) (S : List Int) (ms : Int) (w : World) (ea ua : Addr) (hz : S.length = len) (hlen : len ≤ 1048576) (hl : Lies w (some ad) S) (hby : ∀ j, 0 ≤ S.getD j 0 ∧ S.getD j 0 ≤ 255)
    (hm : ms ≤ 9223372036854775807) (hs : SenIn w ea ua) :
    Calls Tryd.prog 3 #[.slice (some ad) len cap, .int .i64 ms] w fun e w' => e = .returned (.bool true) ∧ Below w.heap.size w w' := by
  have HZ := Hid.mk hz
  have HL := Hid.mk hl
  have HBY := Hid.mk hby
  have HSN := Hid.mk hs
  obtain ⟨l0, l1⟩ := lim_bound ms hm
  have HLIM := Hid.mk (limit_any ms)
  have HMX : Hid (limOf ms = if ms ≤ 0 then 67108864 else ms) := rfl
  obtain ⟨v, hv⟩ : ∃ v, le4 S = v := ⟨_, rfl⟩
  have HV := Hid.mk hv
  have hvb : 0 ≤ v ∧ v ≤ 4294967295 := by
    have h0 := hby 0
    have h1 := hby 1
    have h2 := hby 2
    have h3 := hby 3
    rw [← hv]
    unfold le4
    omega
  obtain ⟨v0, v1⟩ := hvb
  clear hz hl hby hs hv
  generalize limOf ms = mx at *
  by_cases h4 : len < 4
  · have hv24 : v ≤ 16777215 := le4_short S v HBY.out HV.out (by rw [HZ.out]; omega)
    go_enter Tryd.func3, Tryd.ntmps3
    go_wp2_with (first | (go_at_call 5; go_in))
    refine (prefix64_short _ _ _ _ h4).mono ?_
    rintro e w0 ⟨rfl, hw0⟩
    have hb0 : Below w.heap.size w w0 := by rw [hw0]; exact Below.refl _ _
    clear hw0
    have HB0 := Hid.mk hb0
    have HL0 := Hid.mk (HL.out.below hb0)
    have HSN0 := Hid.mk (HSN.out.below hb0)
    clear hb0
    go_wp2_with fail
    refine (HLIM.out _ hm).mono ?_
    rintro e w00 ⟨rfl, hw00⟩
    obtain rfl : w00 = w0 := hw00
    go_wp2_with fail
    refine (clone_some ad len cap S w00 HZ.out hlen HL0.out).mono ?_
    rintro e w1 ⟨rfl, hl1, hb1, hlt1⟩
    have HL1 := Hid.mk hl1
    have HSN1 := Hid.mk (HSN0.out.below hb1)
    have HB1 := Hid.mk (HB0.out.trans (hb1.mono HB0.out.size))
    clear hl1 hb1
    go_wp2_with fail
    have hnew := new_any (some ⟨w00.heap.size, 0, none⟩) S len ms mx w1 ea ua hm HMX.out (by rw [HZ.out]; omega) (by rw [HZ.out]; omega) HL1.out HBY.out (fun b o e => by have := blk_eq e; omega) HSN1.out
    rw [HZ.out] at hnew
    refine hnew.mono ?_
    rintro e w2 ⟨K, gF, rfl, ok, hsa, hS, hN, hbr, hfr, hsen, hb2, hX, hw2⟩
    have hKN : K.N = len := by rw [hN, HZ.out]
    have hle : K.le4 0 = le4 S := by unfold Cfg.le4 le4; rw [hS]
    have HNX := Hid.mk (zznext_ok K gF 0 mx w2 (next_any K ok gF mx 0 0 0 0 w2 hbr hfr hsen (by rw [hle, HV.out]; omega) ⟨l0, l1⟩ (Nat.le_trans HSN1.out.big (Nat.le_of_lt (Nat.lt_of_le_of_lt (Nat.le_refl _) hw2)))))
    have HB2 := Hid.mk (HB1.out.trans (hb2.mono HB1.out.size))
    have HL2 := Hid.mk (HL1.out.below hb2)
    have HKX : Hid (∀ k, K.X k → w.heap.size ≤ k) := fun k hk => Nat.le_trans HB1.out.size (hX k hk)
    have HXL : Hid (∀ k, K.X k → w1.heap.size ≤ k) := hX
    have HSZ : Hid (w.heap.size ≤ w2.heap.size) := Nat.le_trans HB1.out.size hb2.size
    have HKN := Hid.mk hKN
    have HLE := Hid.mk hle
    have HS := Hid.mk hS
    have HOK := Hid.mk ok
    have hlt12 : w1.heap.size < w2.heap.size := hw2
    clear hnew ok hsa hS hN hbr hfr hsen hb2 hX hw2 hKN hle
    go_wp2_with fail
    refine HNX.out.mono ?_
    rintro e w3 ⟨hk3, ⟨h1, h2, n, g, o, c, h3, h4', rfl, h5⟩ | ⟨h1, t, a, rfl⟩⟩
    · exfalso
      rw [HLE.out, HV.out] at h2 h3
      rw [HKN.out] at h1 h4'
      omega
    · have HB3 := Hid.mk (HB2.out.trans (hk3.below HSZ.out HKX.out))
      have hnil := fun w' : World => Lib.run_eql_slice_nil (P := Tryd.prog) w' 22 5 none 0 0 0 0 Tryd.underlying22
      clear hk3 h1
      go_wp2
      go_ret
      exact ⟨rfl, HB3.out⟩
  · by_cases hmv : mx < v
    · have hl4 : (4 : Int) ≤ (len : Int) := by omega
      go_enter Tryd.func3, Tryd.ntmps3
      go_wp2_with (first | (go_at_call 5; go_in))
      refine (prefix64_long ad len cap S w (by omega) hlen HZ.out HL.out HBY.out).mono ?_
      rintro e w0 ⟨rfl, n0, hw0⟩
      have hb0 : Below w.heap.size w w0 := by rw [hw0]; exact ⟨rfl, rfl, rfl, Nat.le_refl _, fun _ _ => rfl⟩
      clear hw0
      rw [HV.out]
      have HB0 := Hid.mk hb0
      have HL0 := Hid.mk (HL.out.below hb0)
      have HSN0 := Hid.mk (HSN.out.below hb0)
      clear hb0
      go_wp2_with fail
      refine (HLIM.out _ hm).mono ?_
      rintro e w00 ⟨rfl, hw00⟩
      obtain rfl : w00 = w0 := hw00
      go_wp2_with fail
      refine (clone_some ad len cap S w00 HZ.out hlen HL0.out).mono ?_
      rintro e w1 ⟨rfl, hl1, hb1, hlt1⟩
      have HL1 := Hid.mk hl1
      have HSN1 := Hid.mk (HSN0.out.below hb1)
      have HB1 := Hid.mk (HB0.out.trans (hb1.mono HB0.out.size))
      clear hl1 hb1
      go_wp2_with fail
      have hnew := new_any (some ⟨w00.heap.size, 0, none⟩) S len ms mx w1 ea ua hm HMX.out (by rw [HZ.out]; omega) (by rw [HZ.out]; omega) HL1.out HBY.out (fun b o e => by have := blk_eq e; omega) HSN1.out
      rw [HZ.out] at hnew
      refine hnew.mono ?_
      rintro e w2 ⟨K, gF, rfl, ok, hsa, hS, hN, hbr, hfr, hsen, hb2, hX, hw2⟩
      have hKN : K.N = len := by rw [hN, HZ.out]
      have hle : K.le4 0 = le4 S := by unfold Cfg.le4 le4; rw [hS]
      have HNX := Hid.mk (zznext_ok K gF 0 mx w2 (next_any K ok gF mx 0 0 0 0 w2 hbr hfr hsen (by rw [hle, HV.out]; omega) ⟨l0, l1⟩ (Nat.le_trans HSN1.out.big (Nat.le_of_lt (Nat.lt_of_le_of_lt (Nat.le_refl _) hw2)))))
      have HB2 := Hid.mk (HB1.out.trans (hb2.mono HB1.out.size))
      have HL2 := Hid.mk (HL1.out.below hb2)
      have HKX : Hid (∀ k, K.X k → w.heap.size ≤ k) := fun k hk => Nat.le_trans HB1.out.size (hX k hk)
      have HXL : Hid (∀ k, K.X k → w1.heap.size ≤ k) := hX
      have HSZ : Hid (w.heap.size ≤ w2.heap.size) := Nat.le_trans HB1.out.size hb2.size
      have HKN := Hid.mk hKN
      have HLE := Hid.mk hle
      have HS := Hid.mk hS
      have HOK := Hid.mk ok
      have hlt12 : w1.heap.size < w2.heap.size := hw2
      clear hnew ok hsa hS hN hbr hfr hsen hb2 hX hw2 hKN hle
      go_wp2_with fail
      refine HNX.out.mono ?_
      rintro e w3 ⟨hk3, ⟨h1, h2, n, g, o, c, h3, h4', rfl, h5⟩ | ⟨h1, t, a, rfl⟩⟩
      · exfalso
        rw [HLE.out, HV.out] at h2 h3
        rw [HKN.out] at h1 h4'
        omega
      · have HB3 := Hid.mk (HB2.out.trans (hk3.below HSZ.out HKX.out))
        have hnil := fun w' : World => Lib.run_eql_slice_nil (P := Tryd.prog) w' 22 5 none 0 0 0 0 Tryd.underlying22
        clear hk3 h1
        go_wp2
        go_ret
        exact ⟨rfl, HB3.out⟩
    · by_cases hskip : 1048576 < v
      · have hl4 : (4 : Int) ≤ (len : Int) := by omega
        have hmv' : v ≤ mx := by omega
        go_enter Tryd.func3, Tryd.ntmps3
        go_wp2_with (first | (go_at_call 5; go_in))
        refine (prefix64_long ad len cap S w (by omega) hlen HZ.out HL.out HBY.out).mono ?_
        rintro e w0 ⟨rfl, n0, hw0⟩
        have hb0 : Below w.heap.size w w0 := by rw [hw0]; exact ⟨rfl, rfl, rfl, Nat.le_refl _, fun _ _ => rfl⟩
        clear hw0
        rw [HV.out]
        have HB0 := Hid.mk hb0
        have HL0 := Hid.mk (HL.out.below hb0)
        have HSN0 := Hid.mk (HSN.out.below hb0)
        clear hb0
        go_wp2_with fail
        refine (HLIM.out _ hm).mono ?_
        rintro e w00 ⟨rfl, hw00⟩
        obtain rfl : w00 = w0 := hw00
        go_wp2
        go_ret
        exact ⟨rfl, HB0.out⟩
      · by_cases hfit : (len : Int) - 4 < v
        · have hmv' : v ≤ mx := by omega
          go_enter Tryd.func3, Tryd.ntmps3
          go_wp2_with (first | (go_at_call 5; go_in))
          refine (prefix64_long ad len cap S w (by omega) hlen HZ.out HL.out HBY.out).mono ?_
          rintro e w0 ⟨rfl, n0, hw0⟩
          have hb0 : Below w.heap.size w w0 := by rw [hw0]; exact ⟨rfl, rfl, rfl, Nat.le_refl _, fun _ _ => rfl⟩
          clear hw0
          rw [HV.out]
          have HB0 := Hid.mk hb0
          have HL0 := Hid.mk (HL.out.below hb0)
          have HSN0 := Hid.mk (HSN.out.below hb0)
          clear hb0
          go_wp2_with fail
          refine (HLIM.out _ hm).mono ?_
          rintro e w00 ⟨rfl, hw00⟩
          obtain rfl : w00 = w0 := hw00
          go_wp2_with fail
          refine (clone_some ad len cap S w00 HZ.out hlen HL0.out).mono ?_
          rintro e w1 ⟨rfl, hl1, hb1, hlt1⟩
          have HL1 := Hid.mk hl1
          have HSN1 := Hid.mk (HSN0.out.below hb1)
          have HB1 := Hid.mk (HB0.out.trans (hb1.mono HB0.out.size))
          clear hl1 hb1
          go_wp2_with fail
          have hnew := new_any (some ⟨w00.heap.size, 0, none⟩) S len ms mx w1 ea ua hm HMX.out (by rw [HZ.out]; omega) (by rw [HZ.out]; omega) HL1.out HBY.out (fun b o e => by have := blk_eq e; omega) HSN1.out
          rw [HZ.out] at hnew
          refine hnew.mono ?_
          rintro e w2 ⟨K, gF, rfl, ok, hsa, hS, hN, hbr, hfr, hsen, hb2, hX, hw2⟩
          have hKN : K.N = len := by rw [hN, HZ.out]
          have hle : K.le4 0 = le4 S := by unfold Cfg.le4 le4; rw [hS]
          have HNX := Hid.mk (zznext_ok K gF 0 mx w2 (next_any K ok gF mx 0 0 0 0 w2 hbr hfr hsen (by rw [hle, HV.out]; omega) ⟨l0, l1⟩ (Nat.le_trans HSN1.out.big (Nat.le_of_lt (Nat.lt_of_le_of_lt (Nat.le_refl _) hw2)))))
          have HB2 := Hid.mk (HB1.out.trans (hb2.mono HB1.out.size))
          have HL2 := Hid.mk (HL1.out.below hb2)
          have HKX : Hid (∀ k, K.X k → w.heap.size ≤ k) := fun k hk => Nat.le_trans HB1.out.size (hX k hk)
          have HXL : Hid (∀ k, K.X k → w1.heap.size ≤ k) := hX
          have HSZ : Hid (w.heap.size ≤ w2.heap.size) := Nat.le_trans HB1.out.size hb2.size
          have HKN := Hid.mk hKN
          have HLE := Hid.mk hle
          have HS := Hid.mk hS
          have HOK := Hid.mk ok
          have hlt12 : w1.heap.size < w2.heap.size := hw2
          clear hnew ok hsa hS hN hbr hfr hsen hb2 hX hw2 hKN hle
          go_wp2_with fail
          refine HNX.out.mono ?_
          rintro e w3 ⟨hk3, ⟨h1, h2, n, g, o, c, h3, h4', rfl, h5⟩ | ⟨h1, t, a, rfl⟩⟩
          · exfalso
            rw [HLE.out, HV.out] at h2 h3
            rw [HKN.out] at h1 h4'
            omega
          · have HB3 := Hid.mk (HB2.out.trans (hk3.below HSZ.out HKX.out))
            have hnil := fun w' : World => Lib.run_eql_slice_nil (P := Tryd.prog) w' 22 5 none 0 0 0 0 Tryd.underlying22
            clear hk3 h1
            go_wp2
            go_ret
            exact ⟨rfl, HB3.out⟩
        · have hmv' : v ≤ mx := by omega
          go_enter Tryd.func3, Tryd.ntmps3
          go_wp2_with (first | (go_at_call 5; go_in))
          refine (prefix64_long ad len cap S w (by omega) hlen HZ.out HL.out HBY.out).mono ?_
          rintro e w0 ⟨rfl, n0, hw0⟩
          have hb0 : Below w.heap.size w w0 := by rw [hw0]; exact ⟨rfl, rfl, rfl, Nat.le_refl _, fun _ _ => rfl⟩
          clear hw0
          rw [HV.out]
          have HB0 := Hid.mk hb0
          have HL0 := Hid.mk (HL.out.below hb0)
          have HSN0 := Hid.mk (HSN.out.below hb0)
          clear hb0
          go_wp2_with fail
          refine (HLIM.out _ hm).mono ?_
          rintro e w00 ⟨rfl, hw00⟩
          obtain rfl : w00 = w0 := hw00
          go_wp2_with fail
          refine (clone_some ad len cap S w00 HZ.out hlen HL0.out).mono ?_
          rintro e w1 ⟨rfl, hl1, hb1, hlt1⟩
          have HL1 := Hid.mk hl1
          have HSN1 := Hid.mk (HSN0.out.below hb1)
          have HB1 := Hid.mk (HB0.out.trans (hb1.mono HB0.out.size))
          clear hl1 hb1
          go_wp2_with fail
          have hnew := new_any (some ⟨w00.heap.size, 0, none⟩) S len ms mx w1 ea ua hm HMX.out (by rw [HZ.out]; omega) (by rw [HZ.out]; omega) HL1.out HBY.out (fun b o e => by have := blk_eq e; omega) HSN1.out
          rw [HZ.out] at hnew
          refine hnew.mono ?_
          rintro e w2 ⟨K, gF, rfl, ok, hsa, hS, hN, hbr, hfr, hsen, hb2, hX, hw2⟩
          have hKN : K.N = len := by rw [hN, HZ.out]
          have hle : K.le4 0 = le4 S := by unfold Cfg.le4 le4; rw [hS]
          have HNX := Hid.mk (zznext_ok K gF 0 mx w2 (next_any K ok gF mx 0 0 0 0 w2 hbr hfr hsen (by rw [hle, HV.out]; omega) ⟨l0, l1⟩ (Nat.le_trans HSN1.out.big (Nat.le_of_lt (Nat.lt_of_le_of_lt (Nat.le_refl _) hw2)))))
          have HB2 := Hid.mk (HB1.out.trans (hb2.mono HB1.out.size))
          have HL2 := Hid.mk (HL1.out.below hb2)
          have HKX : Hid (∀ k, K.X k → w.heap.size ≤ k) := fun k hk => Nat.le_trans HB1.out.size (hX k hk)
          have HXL : Hid (∀ k, K.X k → w1.heap.size ≤ k) := hX
          have HSZ : Hid (w.heap.size ≤ w2.heap.size) := Nat.le_trans HB1.out.size hb2.size
          have HKN := Hid.mk hKN
          have HLE := Hid.mk hle
          have HS := Hid.mk hS
          have HOK := Hid.mk ok
          have hlt12 : w1.heap.size < w2.heap.size := hw2
          clear hnew ok hsa hS hN hbr hfr hsen hb2 hX hw2 hKN hle
          go_wp2_with fail
          refine HNX.out.mono ?_
          rintro e w3 ⟨hk3, ⟨h1, h2, n, g, o, c, h3, h4', rfl, hlies, hbr3⟩ | ⟨h1, t, a, rfl⟩⟩
          · have hvn : v = (n : Int) := by rw [← HV.out, ← HLE.out]; exact h3
            subst hvn
            rw [HKN.out] at h4'
            have HB3 := Hid.mk (HB2.out.trans (hk3.below HSZ.out HKX.out))
            have HLA : Hid (Lies w3 (some ⟨g, o, none⟩) ((S.drop 4).take n)) := by
              have := hlies
              rw [HS.out, Nat.zero_add] at this
              exact this
            have HL3 : Hid (Lies w3 (some ⟨w00.heap.size, 0, none⟩) S) := hk3.lies HL2.out (fun b o e h => by have := blk_eq e; have := HXL.out b h; omega)
            have HLB : Hid (Lies w3 (some ⟨w00.heap.size, 4, none⟩) ((S.drop 4).take n)) := by
              refine Or.inr ⟨_, _, rfl, fun j hj => ?_⟩
              have hzz := HZ.out
              rw [List.length_take, List.length_drop] at hj
              have h9 := HL3.out.cellAt (4 + j) (by omega)
              rw [Nat.zero_add] at h9
              rw [h9]
              congr 2
              rw [List.getD, List.getD, List.getElem?_take_of_lt (by omega), List.getElem?_drop]
            have hlt' : ((S.drop 4).take n).length = n := by
              have hzz := HZ.out
              rw [List.length_take, List.length_drop]; omega
            have HLT := Hid.mk hlt'
            have hne4 : ¬ len = 4 ∨ len = 4 := by omega
            have hs0 : (4 : Int) ≤ 4 + (n : Int) := by omega
            have hs1 : 4 + (n : Int) ≤ (len : Int) := by omega
            clear hk3 h1 h2 h3 hlies hbr3 hlt'
            by_cases he4 : len = 4
            · obtain rfl : n = 0 := by omega
              subst he4
              have HLC : Hid (Lies w3 (some ⟨w00.heap.size, 0, none⟩) ((S.drop 4).take 0)) := Or.inl (by simp)
              go_wp2_with fail
              refine (same_any _ _ 0 _ _ _ w3 HLT.out (by omega) HLA.out HLC.out).mono ?_
              rintro e w4 ⟨rfl, k, rfl⟩
              go_wp2
              go_ret
              exact ⟨ret_bool (by simp), ⟨HB3.out.os, HB3.out.tape, HB3.out.output, HB3.out.size, HB3.out.block⟩⟩
            · go_wp2_with fail
              refine (same_any _ _ n _ _ _ w3 HLT.out (by omega) HLA.out HLB.out).mono ?_
              rintro e w4 ⟨rfl, k, rfl⟩
              go_wp2
              go_ret
              exact ⟨ret_bool (by simp), ⟨HB3.out.os, HB3.out.tape, HB3.out.output, HB3.out.size, HB3.out.block⟩⟩
          · exfalso
            apply h1
            rw [HLE.out, HV.out, HKN.out]
            exact ⟨by omega, by omega, by omega⟩

set_option maxRecDepth 100000 in
set_option maxHeartbeats 4000000 in
theorem law1_nil (ms : Int) (w : World) (ea ua : Addr) (hm : ms ≤ 9223372036854775807) (hs : SenIn w ea ua) :
    Calls Tryd.prog 3 #[.slice none 0 0, .int .i64 ms] w fun e w' => e = .returned (.bool true) ∧ Below w.heap.size w w' := by
  obtain ⟨S, hS0⟩ : ∃ S : List Int, S = [] := ⟨_, rfl⟩
  have HZ : Hid (S.length = 0) := by show _ = _; rw [hS0]; rfl
  have HL : Hid (Lies w none S) := Or.inl hS0
  have HBY : Hid (∀ j, 0 ≤ S.getD j 0 ∧ S.getD j 0 ≤ 255) := by intro j; rw [hS0]; simp
  have HSN := Hid.mk hs
  obtain ⟨l0, l1⟩ := lim_bound ms hm
  have HLIM := Hid.mk (limit_any ms)
  have HMX : Hid (limOf ms = if ms ≤ 0 then 67108864 else ms) := rfl
  obtain ⟨v, hv⟩ : ∃ v, le4 S = v := ⟨_, rfl⟩
  have HV := Hid.mk hv
  have hv24 : v ≤ 16777215 := le4_short S v HBY.out HV.out (by rw [HZ.out]; omega)
  have h4 : 0 < 4 := by omega
  clear hs hv hS0
  generalize limOf ms = mx at *
  go_enter Tryd.func3, Tryd.ntmps3
  go_wp2_with (first | (go_at_call 5; go_in))
  refine (prefix64_short _ _ _ _ h4).mono ?_
  rintro e w0 ⟨rfl, hw0⟩
  have hb0 : Below w.heap.size w w0 := by rw [hw0]; exact Below.refl _ _
  clear hw0
  have HB0 := Hid.mk hb0
  have HL0 := Hid.mk (HL.out.below hb0)
  have HSN0 := Hid.mk (HSN.out.below hb0)
  clear hb0
  go_wp2_with fail
  refine (HLIM.out _ hm).mono ?_
  rintro e w00 ⟨rfl, hw00⟩
  obtain rfl : w00 = w0 := hw00
  go_wp2_with fail
  refine (clone_none _).mono ?_
  rintro e w1 ⟨rfl, hw1⟩
  obtain rfl : w1 = w00 := hw1
  have HL1 : Hid (Lies w1 none S) := HL0
  have hb1 : Below w.heap.size w w1 := HB0.out
  have HB1 := Hid.mk hb1
  have HSN1 := HSN0
  clear hb1
  go_wp2_with fail
  have hnew := new_any none S 0 ms mx w1 ea ua hm HMX.out (by rw [HZ.out]; omega) (by rw [HZ.out]; omega) HL1.out HBY.out (fun b o e => by cases e) HSN1.out
  rw [HZ.out] at hnew
  refine hnew.mono ?_
  rintro e w2 ⟨K, gF, rfl, ok, hsa, hS, hN, hbr, hfr, hsen, hb2, hX, hw2⟩
  have hKN : K.N = 0 := by rw [hN, HZ.out]
  have hle : K.le4 0 = le4 S := by unfold Cfg.le4 le4; rw [hS]
  have HNX := Hid.mk (zznext_ok K gF 0 mx w2 (next_any K ok gF mx 0 0 0 0 w2 hbr hfr hsen (by rw [hle, HV.out]; omega) ⟨l0, l1⟩ (Nat.le_trans HSN1.out.big (Nat.le_of_lt (Nat.lt_of_le_of_lt (Nat.le_refl _) hw2)))))
  have HB2 := Hid.mk (HB1.out.trans (hb2.mono HB1.out.size))
  have HL2 := Hid.mk (HL1.out.below hb2)
  have HKX : Hid (∀ k, K.X k → w.heap.size ≤ k) := fun k hk => Nat.le_trans HB1.out.size (hX k hk)
  have HXL : Hid (∀ k, K.X k → w1.heap.size ≤ k) := hX
  have HSZ : Hid (w.heap.size ≤ w2.heap.size) := Nat.le_trans HB1.out.size hb2.size
  have HKN := Hid.mk hKN
  have HLE := Hid.mk hle
  have HS := Hid.mk hS
  have HOK := Hid.mk ok
  have hlt12 : w1.heap.size < w2.heap.size := hw2
  clear hnew ok hsa hS hN hbr hfr hsen hb2 hX hw2 hKN hle
  go_wp2_with fail
  refine HNX.out.mono ?_
  rintro e w3 ⟨hk3, ⟨h1, h2, n, g, o, c, h3, h4', rfl, h5⟩ | ⟨h1, t, a, rfl⟩⟩
  · exfalso
    rw [HLE.out, HV.out] at h2 h3
    rw [HKN.out] at h1 h4'
    omega
  · have HB3 := Hid.mk (HB2.out.trans (hk3.below HSZ.out HKX.out))
    have hnil := fun w' : World => Lib.run_eql_slice_nil (P := Tryd.prog) w' 22 5 none 0 0 0 0 Tryd.underlying22
    clear hk3 h1
    go_wp2
    go_ret
    exact ⟨rfl, HB3.out⟩

end Go.Proofs.Qxb6606225aDoor
