/-
  The walk of zzIsEntrywiseMax.
-/
import Derived.Test.Qxb6606351aFind
import Derived.Test.Qxb6606351aDom
namespace Go.Proofs.Qxb6606351a
open Go.ChangeShapes Go.WideShapes Go.ChangeAt Go.RowKit
set_option linter.unusedVariables false
set_option linter.unusedSimpArgs false

theorem cmb_step (o : Option Int) (c : Int) (hc : 0 ≤ c) : (cmb o (some c)).isSome = true ∧ (cmb o (some c)).getD 0 = if o.getD 0 < c then c else o.getD 0 := by
  cases o with
  | none =>
    refine ⟨rfl, ?_⟩
    show c = if (0 : Int) < c then c else 0
    split <;> omega
  | some b => exact ⟨rfl, rfl⟩

theorem lk_pos {es : List E} {p c : Int} (h : ∀ y ∈ es, (0 : Int) ≤ y.2) (hl : lk es p = some c) : 0 ≤ c := by
  induction es with
  | nil => cases hl
  | cons x r ih =>
    rw [lk] at hl
    split at hl
    · rw [← Option.some.inj hl]; exact h x (List.mem_cons_self ..)
    · exact ih (fun y hy => h y (List.mem_cons_of_mem _ hy)) hl

set_option maxRecDepth 100000 in
set_option maxHeartbeats 4000000 in
theorem emax_any (aT aL aB al : Option Addr) (nt ct n cL cB ll cl : Nat) (T el : List E) (L : Nat → List E) (A : Nat → Option Addr) (C : Nat → Nat) (F : Nat → Bool) (w : World)
    (hT : Ents w aT T) (hTl : T.length = nt) (hL : RwsIn w aL n L A C) (hB : BoolsIn w aB n F) (hl : Ents w al el) (hel : el.length = ll) (hnt : nt ≤ 10000000) (hn : n ≤ 1048576) (hll : ll ≤ 1048576) (hLl : ∀ i, i < n → (L i).length ≤ 1048576)
    (hs : ∀ i, i < n → F i = true → Srt (L i)) (hsl : Srt el) (hres : T = resOf F L n el) (pos : ∀ i, i < n → ∀ y ∈ L i, (0 : Int) ≤ y.2) (posl : ∀ y ∈ el, (0 : Int) ≤ y.2) :
    Calls Try.prog 14 #[.slice aT nt ct, .slice aL n cL, .slice aB n cB, .slice al ll cl] w fun e w' => e = .returned (.bool true) ∧ ∃ m, w' = w.drewN m := by
  have ST : Hid (Srt T) := by rw [hres]; exact srt_res F L n el hs hsl
  have LKT : Hid (∀ p, lk T p = cmb (lk (fld F L n) p) (lk el p)) := by rw [hres]; exact lk_res F L n el hs hsl
  have LKL : Hid (∀ h k, h < n → F h = true → k < (L h).length → (lk T ((L h).getD k (0, 0)).1).isSome = true) := fun h k hh hu hk => by
    rw [LKT.out]
    exact cmb_some_left (lk_level F L n hs _ h hh hu (by rw [lk_at (hs h hh hu) hk]; rfl))
  have LKE : Hid (∀ k, k < el.length → (lk T (el.getD k (0, 0)).1).isSome = true) := fun k hk => by
    rw [LKT.out]
    exact cmb_some_right (by rw [lk_at hsl hk]; rfl)
  have LKF : Hid (∀ h p, h < n → lk (fld F L (h + 1)) p = if F h = true then cmb (lk (fld F L h) p) (lk (L h) p) else lk (fld F L h) p) := fun h p hh => lk_fld F L h (fun i hi => hs i (by omega)) p
  have HT := Hid.mk hT
  have HTL := Hid.mk hTl
  have HL := Hid.mk hL
  have HB := Hid.mk hB
  have HE := Hid.mk hl
  have HEL := Hid.mk hel
  have HLL := Hid.mk hLl
  have HS := Hid.mk hs
  have HSL := Hid.mk hsl
  have HP := Hid.mk pos
  have HPL := Hid.mk posl
  clear hT hTl hL hB hl hel hLl hs hsl hres pos posl
  go_enter Try.func14, Try.ntmps14
  go_wp2
  go_loopw [9] (fun i wr => ∃ k m : Nat, k ≤ nt ∧ i = .int .i64 ((k + 1 : Nat) : Int) ∧ wr = w.drewN m) (fun i _ => nt - (intOf i).toNat)
  case atStart => exact ⟨0, 0, by omega, rfl, rfl⟩
  case round =>
    obtain ⟨k, m, hk, rfl, rfl⟩ := hrel
    by_cases hlt : k + 1 < nt
    · obtain ⟨bT, oT, rfl, hc⟩ := HT.out.at (by rw [HTL.out]; omega)
      obtain ⟨a1, _⟩ := hc k (by rw [HTL.out]; omega)
      obtain ⟨a2, _⟩ := hc (k + 1) (by rw [HTL.out]; omega)
      have hsr := srt_get ST.out (show k < k + 1 by omega) (by rw [HTL.out]; omega)
      obtain ⟨p1, hp1⟩ : ∃ p, (T.getD k (0, 0)).1 = p := ⟨_, rfl⟩
      obtain ⟨p2, hp2⟩ : ∃ p, (T.getD (k + 1) (0, 0)).1 = p := ⟨_, rfl⟩
      rw [hp1] at a1
      rw [hp2] at a2
      rw [hp1, hp2] at hsr
      clear hp1 hp2 hc
      have hge : ¬ p2 ≤ p1 := by omega
      have hlt' : ((k + 1 : Nat) : Int) < (nt : Int) := by omega
      have hlt2 : (k : Int) < (nt : Int) := by omega
      go_wp2
      go_quiet (fail)
      go_wp2
      go_roundw
      case rel => exact ⟨k + 1, _, by omega, by go_num, rfl⟩
      case measure => simp [intOf]; omega
    · have hnlt : ¬ ((k + 1 : Nat) : Int) < (nt : Int) := by omega
      go_wp2
      go_loopw [10, 11] (fun x y wr => ∃ h m : Nat, h ≤ n ∧ x = .int .i64 h ∧ wr = w.drewN m) (fun x y _ => n - (intOf x).toNat)
      case atStart => exact ⟨0, _, by omega, rfl, rfl⟩
      case round =>
        obtain ⟨h, m2, hh, rfl, rfl⟩ := hrel
        by_cases hhn : h < n
        · have hhn' : (h : Int) < (n : Int) := by omega
          obtain ⟨bL, oL, rfl, hR⟩ := HL.out (by omega)
          obtain ⟨bB, oB, rfl, hBc⟩ := HB.out (by omega)
          obtain ⟨cL1, eL1, _⟩ := hR h hhn
          have cB1 := hBc h hhn
          have hlh := HLL.out h hhn
          have HEK := Hid.mk eL1
          clear hR hBc eL1
          obtain ⟨ai, hai⟩ : ∃ ai, A h = ai := ⟨_, rfl⟩
          obtain ⟨ci, hci⟩ : ∃ ci, C h = ci := ⟨_, rfl⟩
          obtain ⟨lh, hlhe⟩ : ∃ lh, (L h).length = lh := ⟨_, rfl⟩
          rw [hai, hci, hlhe] at cL1
          have HAI := Hid.mk hai
          have HLH := Hid.mk hlhe
          rw [hlhe] at hlh
          clear hai hci hlhe
          cases hfh : F h with
          | false =>
            rw [hfh] at cB1
            clear hfh
            go_wp2
            go_roundw
            case rel => exact ⟨h + 1, _, by omega, by go_num, rfl⟩
            case measure => simp [intOf]; omega
          | true =>
            rw [hfh] at cB1
            have HFH := Hid.mk hfh
            clear hfh
            go_wp2
            go_loopw [11] (fun y wr => ∃ k m : Nat, k ≤ lh ∧ y = .int .i64 k ∧ wr = w.drewN m) (fun y _ => lh - (intOf y).toNat)
            case atStart => exact ⟨0, _, by omega, rfl, rfl⟩
            case round =>
              obtain ⟨k3, m3, hk3, rfl, rfl⟩ := hrel
              by_cases hk3n : k3 < lh
              · have hk3n' : (k3 : Int) < (lh : Int) := by omega
                have HEK' := HEK.out
                rw [HAI.out] at HEK'
                obtain ⟨bI, oI, hie, hIc⟩ := HEK'.at (by rw [HLH.out]; omega)
                obtain ⟨cI, _⟩ := hIc k3 (by rw [HLH.out]; omega)
                have hf := LKL.out h k3 hhn HFH.out (by rw [HLH.out]; omega)
                obtain ⟨q, hq⟩ : ∃ q, ((L h).getD k3 (0, 0)).1 = q := ⟨_, rfl⟩
                rw [hq] at cI hf
                have HFND := Hid.mk hf
                clear hq hIc HEK' hf
                subst hie
                go_wp2_with fail
                refine (finds_any aT nt ct T q (w.drewN m3) HTL.out (by omega) (show Ents (w.drewN m3) aT T from HT.out) ST.out).mono ?_
                rintro e w3 ⟨rfl, hw3⟩
                rw [HFND.out]
                obtain rfl : w3 = w.drewN m3 := hw3
                go_wp2
                go_roundw
                case rel => exact ⟨k3 + 1, _, by omega, by go_num, rfl⟩
                case measure => simp [intOf]; omega
              · obtain rfl : lh = k3 := by omega
                go_wp2
                go_roundw
                case rel => exact ⟨h + 1, _, by omega, by go_num, rfl⟩
                case measure => simp [intOf]; omega
        · obtain rfl : n = h := by omega
          go_wp2
          go_loopw [12] (fun x wr => ∃ k m : Nat, k ≤ ll ∧ x = .int .i64 k ∧ wr = w.drewN m) (fun x _ => ll - (intOf x).toNat)
          case atStart => exact ⟨0, _, by omega, rfl, rfl⟩
          case round =>
            obtain ⟨k4, m4, hk4, rfl, rfl⟩ := hrel
            by_cases hk4n : k4 < ll
            · have hk4n' : (k4 : Int) < (ll : Int) := by omega
              obtain ⟨bE, oE, rfl, hEc⟩ := HE.out.at (by rw [HEL.out]; omega)
              obtain ⟨cE, _⟩ := hEc k4 (by rw [HEL.out]; omega)
              have hf := LKE.out k4 (by rw [HEL.out]; omega)
              obtain ⟨q, hq⟩ : ∃ q, (el.getD k4 (0, 0)).1 = q := ⟨_, rfl⟩
              rw [hq] at cE hf
              have HFND := Hid.mk hf
              clear hq hEc hf
              go_wp2_with fail
              refine (finds_any aT nt ct T q (w.drewN m4) HTL.out (by omega) (show Ents (w.drewN m4) aT T from HT.out) ST.out).mono ?_
              rintro e w3 ⟨rfl, hw3⟩
              rw [HFND.out]
              obtain rfl : w3 = w.drewN m4 := hw3
              go_wp2
              go_roundw
              case rel => exact ⟨k4 + 1, _, by omega, by go_num, rfl⟩
              case measure => simp [intOf]; omega
            · obtain rfl : ll = k4 := by omega
              go_wp2
              go_loopw [13, 14, 15, 16, 17, 18, 19, 20, 21] (fun x _ _ _ _ _ _ _ _ wr => ∃ i m : Nat, i ≤ nt ∧ x = .int .i64 i ∧ wr = w.drewN m) (fun x _ _ _ _ _ _ _ _ _ => nt - (intOf x).toNat)
              case atStart => exact ⟨0, _, by omega, rfl, rfl⟩
              case round =>
                obtain ⟨i5, m5, hi5, rfl, rfl⟩ := hrel
                by_cases hi5n : i5 < nt
                · have hi5n' : (i5 : Int) < (nt : Int) := by omega
                  obtain ⟨bT, oT, rfl, hTc⟩ := HT.out.at (by rw [HTL.out]; omega)
                  obtain ⟨cT1, cT2⟩ := hTc i5 (by rw [HTL.out]; omega)
                  have hat := lk_at ST.out (show i5 < T.length by rw [HTL.out]; omega)
                  obtain ⟨⟨p, ctr⟩, hpc⟩ : ∃ x, T.getD i5 (0, 0) = x := ⟨_, rfl⟩
                  rw [hpc] at cT1 cT2 hat
                  simp only at cT1 cT2 hat
                  rw [LKT.out] at hat
                  have HAT := Hid.mk hat
                  clear hTc hpc hat
                  go_wp2
                  go_loopw [15, 16, 17, 18, 19] (fun x y z _ _ wr => ∃ (h m : Nat) (o : Option Int), h ≤ n ∧ z = .int .i64 h ∧ x = .int .u64 (o.getD 0) ∧ y = .bool o.isSome ∧ wr = w.drewN m ∧ Hid (lk (fld F L h) p = o)) (fun _ _ z _ _ _ => n - (intOf z).toNat)
                  case atStart => exact ⟨0, _, none, by omega, rfl, rfl, rfl, rfl, rfl⟩
                  case round =>
                    obtain ⟨h6, m6, ob, hh6, rfl, rfl, rfl, rfl, hob⟩ := hrel
                    obtain ⟨bv, hbv⟩ : ∃ bv, ob.getD 0 = bv := ⟨_, rfl⟩
                    obtain ⟨ls, hls⟩ : ∃ ls, ob.isSome = ls := ⟨_, rfl⟩
                    rw [hbv, hls]
                    have HBV := Hid.mk hbv
                    have HLS := Hid.mk hls
                    clear hbv hls
                    by_cases hhn : h6 < n
                    · have hhn' : (h6 : Int) < (n : Int) := by omega
                      obtain ⟨bL, oL, rfl, hR⟩ := HL.out (by omega)
                      obtain ⟨bB, oB, rfl, hBc⟩ := HB.out (by omega)
                      obtain ⟨cL1, eL1, _⟩ := hR h6 hhn
                      have cB1 := hBc h6 hhn
                      have hlh := HLL.out h6 hhn
                      have HEK := Hid.mk eL1
                      clear hR hBc eL1
                      obtain ⟨ai, hai⟩ : ∃ ai, A h6 = ai := ⟨_, rfl⟩
                      obtain ⟨ci, hci⟩ : ∃ ci, C h6 = ci := ⟨_, rfl⟩
                      obtain ⟨lh, hlhe⟩ : ∃ lh, (L h6).length = lh := ⟨_, rfl⟩
                      rw [hai, hci, hlhe] at cL1
                      have HAI := Hid.mk hai
                      have HLH := Hid.mk hlhe
                      rw [hlhe] at hlh
                      clear hai hci hlhe
                      have hstep := LKF.out h6 p hhn
                      rw [hob.out] at hstep
                      cases hfh : F h6 with
                      | false =>
                        rw [hfh] at cB1 hstep
                        rw [if_neg (by simp)] at hstep
                        have HST := Hid.mk hstep
                        clear hfh hstep
                        go_wp2
                        go_roundw
                        case rel => exact ⟨h6 + 1, _, ob, by omega, by go_num, by rw [HBV.out], by rw [HLS.out], rfl, HST.out⟩
                        case measure => simp [intOf]; omega
                      | true =>
                        rw [hfh] at cB1 hstep
                        rw [if_pos rfl] at hstep
                        have HST := Hid.mk hstep
                        have HFH := Hid.mk hfh
                        clear hfh hstep
                        go_wp2_with fail
                        refine (find_any ai lh ci (L h6) p (w.drewN m6) HLH.out (by omega) (by have := HEK.out; rw [HAI.out] at this; exact this) (HS.out h6 hhn HFH.out)).mono ?_
                        rintro e w3 ⟨rfl, hw3⟩
                        obtain rfl : w3 = w.drewN m6 := hw3
                        obtain ⟨oc, hoc⟩ : ∃ oc, lk (L h6) p = oc := ⟨_, rfl⟩
                        have HOC := Hid.mk hoc
                        rw [hoc]
                        clear hoc
                        cases oc with
                        | none =>
                          rw [show (none : Option Int).getD 0 = 0 from rfl, show (none : Option Int).isSome = false from rfl]
                          go_wp2
                          go_roundw
                          case rel => exact ⟨h6 + 1, _, ob, by omega, by go_num, by rw [HBV.out], by rw [HLS.out], rfl, by have := HST.out; rw [HOC.out, cmb_none] at this; exact this⟩
                          case measure => simp [intOf]; omega
                        | some c =>
                          rw [show (some c : Option Int).getD 0 = c from rfl, show (some c : Option Int).isSome = true from rfl]
                          have hc0 : 0 ≤ c := lk_pos (HP.out h6 hhn) HOC.out
                          obtain ⟨g1, g2⟩ := cmb_step ob c hc0
                          rw [HBV.out] at g2
                          have G1 := Hid.mk g1
                          have HST' : Hid (lk (fld F L (h6 + 1)) p = cmb ob (some c)) := by have := HST.out; rw [HOC.out] at this; exact this
                          clear g1 hc0
                          by_cases hbc : bv < c
                          · rw [if_pos hbc] at g2
                            have G2 := Hid.mk g2
                            clear g2
                            go_wp2
                            go_roundw
                            case rel => exact ⟨h6 + 1, _, cmb ob (some c), by omega, by go_num, by rw [G2.out], by rw [G1.out], rfl, HST'.out⟩
                            case measure => simp [intOf]; omega
                          · rw [if_neg hbc] at g2
                            have G2 := Hid.mk g2
                            clear g2
                            go_wp2
                            go_roundw
                            case rel => exact ⟨h6 + 1, _, cmb ob (some c), by omega, by go_num, by rw [G2.out], by rw [G1.out], rfl, HST'.out⟩
                            case measure => simp [intOf]; omega
                    · obtain rfl : n = h6 := by omega
                      have hat := HAT.out
                      rw [hob.out] at hat
                      go_wp2_with fail
                      refine (find_any al ll cl el p (w.drewN m6) HEL.out (by omega) (show Ents (w.drewN m6) al el from HE.out) HSL.out).mono ?_
                      rintro e w3 ⟨rfl, hw3⟩
                      obtain rfl : w3 = w.drewN m6 := hw3
                      obtain ⟨oc, hoc⟩ : ∃ oc, lk el p = oc := ⟨_, rfl⟩
                      have HOC := Hid.mk hoc
                      rw [hoc] at hat ⊢
                      clear hoc
                      cases oc with
                      | none =>
                        rw [show (none : Option Int).getD 0 = 0 from rfl, show (none : Option Int).isSome = false from rfl]
                        rw [cmb_none] at hat
                        obtain rfl : ls = true := by rw [← HLS.out, hat]; rfl
                        obtain rfl : bv = ctr := by rw [← HBV.out, hat]; rfl
                        clear hat
                        go_wp2
                        go_roundw
                        case rel => exact ⟨i5 + 1, _, by omega, by go_num, rfl⟩
                        case measure => simp [intOf]; omega
                      | some c =>
                        rw [show (some c : Option Int).getD 0 = c from rfl, show (some c : Option Int).isSome = true from rfl]
                        have hc0 : 0 ≤ c := lk_pos HPL.out HOC.out
                        obtain ⟨_, g2⟩ := cmb_step ob c hc0
                        rw [HBV.out, hat] at g2
                        have g3 : ctr = if bv < c then c else bv := g2
                        clear g2 hat hc0
                        by_cases hbc : bv < c
                        · rw [if_pos hbc] at g3
                          subst g3
                          go_wp2
                          go_roundw
                          case rel => exact ⟨i5 + 1, _, by omega, by go_num, rfl⟩
                          case measure => simp [intOf]; omega
                        · rw [if_neg hbc] at g3
                          subst g3
                          go_wp2
                          go_roundw
                          case rel => exact ⟨i5 + 1, _, by omega, by go_num, rfl⟩
                          case measure => simp [intOf]; omega
                · obtain rfl : nt = i5 := by omega
                  go_wp2
                  go_ret
                  exact ⟨rfl, _, rfl⟩
end Go.Proofs.Qxb6606351a
