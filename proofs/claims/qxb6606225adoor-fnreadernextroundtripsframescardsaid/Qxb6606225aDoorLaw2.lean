/-
  The walk of FnReaderNextRoundTripsFrames.
-/
import Derived.Test.Qxb6606225aDoorEnc
import Derived.Maps.AppendAt
namespace Go.Proofs.Qxb6606225aDoor
open Go.ChangeShapes Go.WideShapes Go.ChangeAt Go.RowKit
set_option linter.unusedVariables false
set_option linter.unusedSimpArgs false

theorem drewN_below (w : World) (m : Nat) : Below w.heap.size w (w.drewN m) := ⟨rfl, rfl, rfl, Nat.le_refl _, fun _ _ => rfl⟩

/-- What the loop that lays the stream holds behind k rounds. -/
def Laid (w : World) (base : Nat) (L : List (List Int)) (v : Value) (k : Nat) : Prop := w.ownsRow base 5 1 v (pos L k) ((enc (L.take k)).map (Value.int .u8))

theorem own_cap {w : World} {base : Nat} {e : TypeId} {size g n c : Nat} {xs : List Value} (h : w.ownsRow base e size (.slice (some ⟨g, 0, none⟩) n c) n xs) : n ≤ c := by
  rcases h.2 with ⟨h0, _⟩ | ⟨g', cap, cur, hv, hb, hg, h1, _⟩
  · cases h0
  · cases hv
    exact h1

theorem lies_news {w : World} {x : Addr} {z : List Int} (h : Lies w (some x) z) : ∀ (j : Nat) (u : Value), (z.map (Value.int .u8))[j]? = some u → w.cell? (x.add j) = some u := by
  intro j u hu
  rw [List.getElem?_map] at hu
  obtain ⟨y, hy, rfl⟩ := Option.map_eq_some_iff.1 hu
  have hj : j < z.length := (List.getElem?_eq_some_iff.1 hy).1
  obtain ⟨b, o, e, hc⟩ := h.at (by omega)
  obtain rfl := Option.some.inj e
  rw [Addr.add_lit, hc j hj]
  simp [List.getD, hy]

theorem lies_of_own {w : World} {base g n c : Nat} {z : List Int} (h : w.ownsRow base 5 1 (.slice (some ⟨g, 0, none⟩) n c) n (z.map (Value.int .u8))) : Lies w (some ⟨g, 0, none⟩) z := by
  refine Or.inr ⟨g, 0, rfl, fun i hi => ?_⟩
  have := h.cells (g := g) rfl i (.int .u8 (z.getD i 0)) (by simp [List.getD, hi])
  rw [Addr.add_lit] at this
  exact this

set_option maxRecDepth 100000 in
set_option maxHeartbeats 8000000 in
theorem law2_some (b off n cap : Nat) (L : List (List Int)) (ms : Int) (w : World) (ea ua : Addr) (hz : L.length = n) (hn0 : 0 < n) (hn : n ≤ 9223372036854775807) (hb : Bods w b off L) (hlen : ∀ i, (L.getD i []).length ≤ 9223372036854775807) (hby : Bytes L)
    (hm : ms ≤ 9223372036854775807) (hs : SenIn w ea ua) :
    Calls Tryd.prog 4 #[.slice (some ⟨b, off, none⟩) n cap, .int .i64 ms] w fun e w' => e = .returned (.bool true) ∧ Below w.heap.size w w' := by
  obtain ⟨i0, hi, hz0, hz1, hz2⟩ : ∃ i, Tryd.prog.info? 5 = some i ∧ i.zero = some (.int .u8 0) ∧ i.size = 1 ∧ i.bytes = 1 := by
    have := Tryd.info5
    obtain ⟨i, hi, hzz⟩ := Option.map_eq_some_iff.1 this
    simp only [Prod.mk.injEq] at hzz
    exact ⟨i, hi, hzz.1, hzz.2.1, hzz.2.2⟩
  have HI := Hid.mk hi
  have HZ0 := Hid.mk hz0
  have HZ1 := Hid.mk hz1
  have HZ2 := Hid.mk hz2
  clear hi hz0 hz1 hz2
  have HZ := Hid.mk hz
  have HB := Hid.mk hb
  have HL := Hid.mk hlen
  have HBY := Hid.mk hby
  have HSN := Hid.mk hs
  obtain ⟨l0, l1⟩ := lim_bound ms hm
  have HLIM := Hid.mk (limit_any ms)
  have HMX : Hid (limOf ms = if ms ≤ 0 then 67108864 else ms) := rfl
  clear hz hb hlen hby hs
  generalize limOf ms = mx at *
  by_cases hbig : 1048576 < n
  · go_enter Tryd.func4, Tryd.ntmps4
    go_wp2_with fail
    refine (zzb_big _ _ _ _ w hbig hn).mono ?_
    rintro e w1 ⟨rfl, hw1⟩
    obtain rfl : w1 = w := hw1
    go_wp2
    go_ret
    exact ⟨rfl, Below.refl _ _⟩
  go_enter Tryd.func4, Tryd.ntmps4
  go_wp2_with fail
  refine (zzb_some b off n cap ms L w HZ.out (by omega) HB.out HL.out).mono ?_
  rintro e w1 ⟨⟨m1, hw1⟩, r, rfl, hr⟩
  have hb1 : Below w.heap.size w w1 := by rw [hw1]; exact drewN_below _ _
  have HB1 := Hid.mk hb1
  have HBD1 := Hid.mk (HB.out.below hb1)
  have HR := Hid.mk hr
  clear hw1 hb1 hr
  cases r with
  | false =>
    go_wp2
    go_ret
    exact ⟨rfl, HB1.out⟩
  | true =>
    have HSH := Hid.mk (HR.out rfl)
    clear HR
    by_cases h16 : 65536 < n
    · go_wp2
      go_ret
      exact ⟨rfl, HB1.out⟩
    go_wp2
    go_loopw [5, 6] (fun z i wr => ∃ k y m : Nat, k ≤ n ∧ y ≤ 1048576 ∧ z = .int .i64 y ∧ i = .int .i64 k ∧ wr = w1.drewN m ∧ Hid (y + 4 * k = 8 * n + pos L k)) (fun _ i _ => n - (intOf i).toNat)
    case atStart => exact ⟨0, 8 * n, 0, Nat.zero_le _, by omega, by go_num, rfl, rfl, by rw [pos_zero]; exact rfl⟩
    case round =>
      obtain ⟨k, y, m, hk, hy, rfl, rfl, rfl, htot⟩ := hrel
      by_cases hlt : k < n
      · obtain ⟨ai, ci, hc, _, _⟩ := HBD1.out k (by rw [HZ.out]; exact hlt)
        have hlk := HSH.out k
        have hpos := enc_take_length L k (by rw [HZ.out]; exact hlt)
        have HPOS := Hid.mk hpos
        clear hpos
        obtain ⟨lk, hlke⟩ : ∃ lk, (L.getD k []).length = lk := ⟨_, rfl⟩
        rw [hlke] at hc hlk
        have HLK := Hid.mk hlke
        clear hlke
        have hlt' : (k : Int) < (n : Int) := by omega
        by_cases h2 : 1048576 < y + lk
        · go_wp2
          go_ret
          exact ⟨rfl, HB1.out.trans ((drewN_below _ _).mono HB1.out.size)⟩
        · go_wp2
          go_roundw
          case rel =>
            refine ⟨k + 1, y + lk, _, by omega, by omega, by go_num, by go_num, rfl, ?_⟩
            have e1 := HPOS.out
            have e2 := HLK.out
            have e3 := htot.out
            show y + lk + 4 * (k + 1) = 8 * n + pos L (k + 1)
            unfold pos at e3 ⊢
            omega
          case measure => simp [intOf]; omega
      · obtain rfl : n = k := by omega
        have hN : (enc L).length + 4 * n ≤ 1048576 := by
          have e3 := htot.out
          have e4 := pos_all L
          rw [HZ.out] at e4
          omega
        have HBD1' := Hid.mk (HBD1.out.below (drewN_below w1 m))
        have HB1' := Hid.mk (HB1.out.trans ((drewN_below w1 m).mono HB1.out.size))
        have HSN2 := Hid.mk (HSN.out.below HB1'.out)
        clear HB1 HBD1 HB HSN
        generalize hwm : w1.drewN m = w2 at *
        clear hwm
        go_wp2_with fail
        refine (call_some b off n cap L w2 HZ.out (by omega) HBD1'.out HSH.out).mono ?_
        rintro e w3 ⟨rfl, hbd3, hb3, hlt3⟩
        have HBD3 := Hid.mk hbd3
        have HSN3 := Hid.mk (HSN2.out.below hb3)
        have HB3 := Hid.mk (HB1'.out.trans (hb3.mono HB1'.out.size))
        clear hbd3 hb3 HBD1' HB1' HSN2 htot
        generalize w2.heap.size = g0 at *
        go_wp2
        go_loopw [7, 8] (fun v i wr => ∃ k : Nat, k ≤ n ∧ i = .int .i64 k ∧ Hid (Laid wr w3.heap.size L v k) ∧ Hid (Below w3.heap.size w3 wr)) (fun _ i _ => n - (intOf i).toNat)
        case atStart => exact ⟨0, Nat.zero_le _, rfl, ⟨rfl, Or.inl ⟨rfl, rfl⟩⟩, Below.refl _ _⟩
        case round =>
          obtain ⟨k, hk, rfl, hlaid, hbe⟩ := hrel
          by_cases hlt : k < n
          · obtain ⟨ai, ci, hc3, hli, hni⟩ := HBD3.out k (by rw [HZ.out]; exact hlt)
            rw [Nat.zero_add] at hc3
            have hlk := HSH.out k
            have hg0lt : g0 < w3.heap.size := hlt3
            have hc := (hbe.out.cell (p := ⟨g0, k, none⟩) hg0lt).trans hc3
            clear hc3
            have HLI := Hid.mk hli
            have HNI := Hid.mk hni
            have hlt' : (k : Int) < (n : Int) := by omega
            have hposk : pos L k ≤ 1048576 := by have := pos_le L k (by rw [HZ.out]; exact hlt); omega
            clear hli hni
            obtain ⟨z, hze⟩ : ∃ z, L.getD k [] = z := ⟨_, rfl⟩
            rw [hze] at hc hlk
            have HZE := Hid.mk hze
            clear hze
            have hbsz := hbe.out.size
            go_wp2_with fail
            refine (apfx_any _ (pos L k) z.length w3.heap.size _ wr hlaid.out (by omega) hlk hbsz).mono ?_
            rintro e w4 ⟨g4, c4, rfl, ho4, hb4⟩
            have HO4 := Hid.mk ho4
            have HB4 := Hid.mk (hbe.out.trans hb4)
            have hc4 := (hb4.cell (p := ⟨g0, k, none⟩) hg0lt).trans hc
            clear hc ho4 hb4
            have hcap4 := own_cap HO4.out
            have hb4sz := HB4.out.size
            have HLI4 := Hid.mk (HLI.out.below HB4.out)
            cases ai with
            | none =>
              obtain ⟨hz0, rfl⟩ := HNI.out rfl
              rw [HZE.out] at hz0
              rw [hz0] at hc4
              have HZ00 := Hid.mk hz0
              clear hz0
              go_wp2
              go_roundw
              case rel =>
                refine ⟨k + 1, by omega, by go_num, ?_, HB4⟩
                have e1 := enc_take_length L k (by rw [HZ.out]; exact hlt)
                have e2 := enc_take_succ L k (by rw [HZ.out]; exact hlt)
                have e3 := HO4.out
                have e4 : L.getD k [] = [] := List.eq_nil_of_length_eq_zero (by rw [HZE.out]; exact HZ00.out)
                rw [e4] at e1 e2
                have e5 : pos L (k + 1) = pos L k + 4 := e1
                rw [HZ00.out] at e3
                unfold Laid
                rw [e2, e5, List.map_append]
                exact e3
              case measure => simp [intOf]; omega
            | some x => 
              go_wp2_with (at_builtin; refine wpList_append_own_at w4 rfl _ _ 22 rfl w3.heap.size 5 i0 (.int .u8 0) 1 1 Tryd.underlying22 HI.out HZ0.out HZ1.out HZ2.out rfl (by omega) _ (pos L k + 4) _ rfl HO4.out x z.length ci (z.map (Value.int .u8)) rfl (by simp) ?_ (ints_oneCell _ _) (by unfold maxLen; omega) (by omega) (by omega) ?_)
              · have h9 := HLI4.out
                rw [HZE.out] at h9
                exact lies_news h9
              intro v5 w5 ho5 hg5 hnn5 hat5
              have HO5 := Hid.mk ho5
              have HB5 := Hid.mk (HB4.out.grown hg5 hb4sz (own_base HO4.out))
              clear ho5 hg5 hnn5 hat5
              go_wp2
              go_roundw
              case rel =>
                refine ⟨k + 1, by omega, by go_num, ?_, HB5⟩
                have e1 := enc_take_length L k (by rw [HZ.out]; exact hlt)
                have e2 := enc_take_succ L k (by rw [HZ.out]; exact hlt)
                have e3 := HO5.out
                rw [HZE.out] at e1 e2
                have e5 : pos L (k + 1) = pos L k + 4 + z.length := e1
                unfold Laid
                rw [e2, e5, List.map_append, List.map_append]
                exact e3
              case measure => simp [intOf]; omega
          · obtain rfl : n = k := by omega
            have hlaid' := hlaid.out
            have epos : pos L n = (enc L).length := by have := pos_all L; rw [HZ.out] at this; exact this
            have etake : L.take n = L := List.take_of_length_le (by rw [HZ.out]; exact Nat.le_refl _)
            unfold Laid at hlaid'
            rw [epos, etake] at hlaid'
            have hNpos : 0 < (enc L).length := by
              have := pos_le L 0 (by rw [HZ.out]; exact hn0)
              omega
            obtain ⟨gs, cs, rfl, hgb, hglt⟩ := hlaid'.form hNpos
            have hcaps := own_cap hlaid'
            have HLS : Hid (Lies wr (some ⟨gs, 0, none⟩) (enc L)) := lies_of_own hlaid'
            have HBY2 := Hid.mk (bytes_getD (enc L) (enc_bytes L HBY.out (short_mem L HSH.out)))
            have HSN4 := Hid.mk (HSN3.out.below hbe.out)
            have HB4 := Hid.mk (HB3.out.trans (hbe.out.mono HB3.out.size))
            have HBD4 := Hid.mk (HBD3.out.below hbe.out)
            clear hlaid hlaid' epos etake hgb
            have hnew := new_any (some ⟨gs, 0, none⟩) (enc L) cs ms mx wr ea ua hm HMX.out (by omega) hcaps HLS.out HBY2.out (fun b o e => by have := blk_eq e; omega) HSN4.out
            have HNEW := Hid.mk hnew
            clear hnew
            obtain ⟨w4, rfl⟩ : ∃ w4 : World, w4 = wr := ⟨_, rfl⟩
            go_wp2_with fail
            refine HNEW.out.mono ?_
            rintro e w5 ⟨K, gF, rfl, ok, hsa, hS, hN, hbr, hfr, hsen, hb5, hX, hw5⟩
            have HOK := Hid.mk ok
            have HS := Hid.mk hS
            have HKN := Hid.mk hN
            have HBR := Hid.mk hbr
            have HFR := Hid.mk hfr
            have HSEN := Hid.mk hsen
            have HB5 := Hid.mk hb5
            have HX := Hid.mk hX
            clear ok hsa hS hN hbr hfr hsen hb5 hX HNEW
            go_wp2_with fail
            refine (HLIM.out _ hm).mono ?_
            rintro e w55 ⟨rfl, hw55⟩
            obtain rfl : w55 = w5 := hw55
            have hg0w4 : g0 < w4.heap.size := Nat.lt_of_lt_of_le hlt3 hbe.out.size
            have hw8 : 8 ≤ w55.heap.size := Nat.le_trans HSN4.out.big (Nat.le_of_lt hw5)
            clear hbe HLS HBY2
            go_wp2
            go_loopw [11, 12, 13] (fun i g e wr => ∃ k : Nat, k ≤ n ∧ i = .int .i64 k ∧ (∃ r wd j, Hid (Br K wr r wd j (pos L k) .nilIface)) ∧ Hid (Kp K.X w55 wr)) (fun i _ _ _ => n - (intOf i).toNat)
            case atStart => exact ⟨0, Nat.zero_le _, rfl, ⟨0, 0, 0, HBR⟩, Kp.refl _ _⟩
            case round =>
              obtain ⟨k, hk, rfl, ⟨r, wd, j, hbr⟩, hkp⟩ := hrel
              have HF := Hid.mk (HFR.out.kept hkp.out)
              have HS' := Hid.mk (HSEN.out.kept hkp.out)
              have hw8' : 8 ≤ wr.heap.size := Nat.le_trans hw8 hkp.out.size
              have HBW := Hid.mk (HB5.out.trans (hkp.out.below HB5.out.size HX.out))
              by_cases hlt : k < n
              · obtain ⟨ai, ci, hc4, hli, hni⟩ := HBD4.out k (by rw [HZ.out]; exact hlt)
                rw [Nat.zero_add] at hc4
                have hlk := HSH.out k
                have hle := le4_pos L k (by rw [HZ.out]; exact hlt) hlk K HS.out
                have hplen := pos_le L k (by rw [HZ.out]; exact hlt)
                have hbody := body_pos L k (by rw [HZ.out]; exact hlt)
                have hsucc := enc_take_length L k (by rw [HZ.out]; exact hlt)
                obtain ⟨z, hze⟩ : ∃ z, L.getD k [] = z := ⟨_, rfl⟩
                rw [hze] at hc4 hlk hle hplen hbody hsucc hli
                have HLI := Hid.mk hli
                have HLE := Hid.mk hle
                have HBO := Hid.mk hbody
                have HSU : Hid (pos L (k + 1) = pos L k + 4 + z.length) := hsucc
                have hlt' : (k : Int) < (n : Int) := by omega
                have HNX := Hid.mk (zznext_ok K gF (pos L k) mx wr (next_any K HOK.out gF mx r wd j (pos L k) wr hbr.out HF.out HS'.out (by rw [hle]; omega) ⟨l0, l1⟩ hw8'))
                clear hli hni hle hbody hsucc hze
                go_wp2_with fail
                refine HNX.out.mono ?_
                rintro e w6 ⟨hk6, ⟨h1, h2, m, g, o, c, h3, h4', rfl, hlies, r6, wd6, i6, hbr6⟩ | ⟨h1, t, a, rfl⟩⟩
                · have hmz : (m : Int) = (z.length : Int) := by rw [← h3]; exact HLE.out
                  obtain rfl : m = z.length := by omega
                  have hzmx : (z.length : Int) ≤ mx := by rw [← HLE.out]; exact h2
                  have HB6 := Hid.mk (HBW.out.trans (hk6.below HBW.out.size HX.out))
                  have hc6 := (HB6.out.cell (p := ⟨g0, k, none⟩) hg0w4).trans hc4
                  have HLG : Hid (Lies w6 (some ⟨g, o, none⟩) z) := by
                    have h9 := hlies
                    rw [HS.out, HBO.out] at h9
                    exact h9
                  have HLB := Hid.mk (HLI.out.below HB6.out)
                  have HBR6 := Hid.mk hbr6
                  have HK6 := Hid.mk (hkp.out.trans hk6)
                  clear h1 h2 h3 h4' hlies hbr6 hk6 hc4 hmz HNX
                  go_wp2_with fail
                  refine (same_any _ _ z.length _ _ z w6 rfl hlk HLG.out HLB.out).mono ?_
                  rintro e w7 ⟨rfl, q, hw7⟩
                  have HBR7 : Hid (Br K w7 r6 wd6 i6 (pos L (k + 1)) .nilIface) := by
                    show Br _ _ _ _ _ _ _
                    rw [HSU.out, hw7]
                    exact HBR6.out.drewN HOK.out q
                  have HK7 : Hid (Kp K.X w55 w7) := by
                    show Kp _ _ _
                    rw [hw7]
                    exact HK6.out.drewN q
                  clear hw7 HBR6 HK6
                  go_wp2
                  go_roundw
                  case rel => exact ⟨k + 1, by omega, by go_num, ⟨r6, wd6, i6, HBR7⟩, HK7⟩
                  case measure => simp [intOf]; omega
                · have hzmx : mx < (z.length : Int) := by
                    apply Int.not_le.1
                    intro hle
                    apply h1
                    rw [HLE.out, HKN.out]
                    exact ⟨by omega, hle, by omega⟩
                  have HB6 := Hid.mk (HBW.out.trans (hk6.below HBW.out.size HX.out))
                  have hc6 := (HB6.out.cell (p := ⟨g0, k, none⟩) hg0w4).trans hc4
                  have hnil := fun w' : World => Lib.run_eql_slice_nil (P := Tryd.prog) w' 22 5 none 0 0 0 0 Tryd.underlying22
                  clear h1 hk6 hc4 HNX
                  go_wp2
                  go_ret
                  exact ⟨rfl, HB4.out.trans (HB6.out.mono HB4.out.size)⟩
              · obtain rfl : n = k := by omega
                have hpe : pos L n = (enc L).length := by have := pos_all L; rw [HZ.out] at this; exact this
                have hbrE := hbr.out
                rw [hpe] at hbrE
                have hle0 := le4_end L K HS.out
                have HNX := Hid.mk (zznext_ok K gF (enc L).length mx wr (next_any K HOK.out gF mx r wd j (enc L).length wr hbrE HF.out HS'.out (by rw [hle0]; omega) ⟨l0, l1⟩ hw8'))
                clear hpe hbrE hle0
                go_wp2_with fail
                refine HNX.out.mono ?_
                rintro e w6 ⟨hk6, ⟨h1, h2, m, g, o, c, h3, h4', rfl, hlies, r6, wd6, i6, hbr6⟩ | ⟨h1, t, a, rfl⟩⟩
                · exfalso
                  rw [HKN.out] at h1
                  omega
                · have HB6 := Hid.mk (HBW.out.trans (hk6.below HBW.out.size HX.out))
                  have hnil := fun w' : World => Lib.run_eql_slice_nil (P := Tryd.prog) w' 22 5 none 0 0 0 0 Tryd.underlying22
                  clear h1 hk6 HNX
                  go_wp2
                  go_ret
                  exact ⟨rfl, HB4.out.trans (HB6.out.mono HB4.out.size)⟩
end Go.Proofs.Qxb6606225aDoor
