/-
  The walk of (*bufio.Reader).Read.
-/
import Derived.Test.Qxb6606225aDoorPrefix
import Derived.Deep.RegionWith
namespace Go.Proofs.Qxb6606225aDoor
open Go.ChangeShapes Go.WideShapes Go.ChangeAt Go.RowKit
set_option linter.unusedVariables false
set_option linter.unusedSimpArgs false

/-- What a Read into 'len' cells of block gd from 'off' on answers at place p. -/
def BReadDone (K : Cfg) (p gd off len : Nat) (cur : List Value) (w w' : World) (e : Ending) : Prop :=
  Kp (fun k => K.X k ∨ k = gd) w w' ∧
    ((p = K.N ∧ e = .returned (.tuple #[.int .i64 0, .iface 75 (.pointer (some K.ea))]) ∧ w'.heap[gd]? = some (.cells cur.toArray 5 (0, 0)) ∧ ∃ r wd i, Br K w' r wd i p .nilIface) ∨
     (∃ n : Nat, 0 < n ∧ n ≤ len ∧ p + n ≤ K.N ∧ e = .returned (.tuple #[.int .i64 n, .nilIface]) ∧ w'.heap[gd]? = some (.cells (splice cur off (K.cut p n)).toArray 5 (0, 0)) ∧ ∃ r wd i, Br K w' r wd i (p + n) .nilIface))

set_option maxRecDepth 100000 in
set_option maxHeartbeats 2000000 in
theorem bread_any (K : Cfg) (ok : K.Ok) (r wd i p gd off len dcap : Nat) (cur : List Value) (w : World) (hs : Br K w r wd i p .nilIface) (hlen : 0 < len) (hlm : len ≤ 1000000000)
    (hd : w.heap[gd]? = some (.cells cur.toArray 5 (0, 0))) (hfit : off + len ≤ cur.length) (hX : ¬ K.X gd) (h3 : ∀ b o, K.sa = some ⟨b, o, none⟩ → b ≠ gd) (h8 : 8 ≤ gd) :
    Calls Tryd.prog 49 #[.pointer (some ⟨K.gR, 0, none⟩), .slice (some ⟨gd, off, none⟩) len dcap] w fun e w' => BReadDone K p gd off len cur w w' e := by
  have OK := Hid.mk ok
  have HS := Hid.mk hs
  have HD := Hid.mk hd
  have HX := Hid.mk hX
  have H3 := Hid.mk h3
  have h1 := hs.rw
  have h2 := hs.w4
  have hpos := hs.pos
  have hB := ok.B2
  have hle := hs.src.le
  have b2 := hs.b2
  have b3 := hs.b3
  have hl0 : ((len : Int) == 0) = false := by simp; omega
  clear hs ok hd hX h3
  go_enter Tryd.func49, Tryd.ntmps49
  go_wp2
  go_quiet (fail)
  go_upto_if 23 with fail
  go_cut [] (fun wx => Kp (fun k => K.X k ∨ k = gd) w wx ∧ wx.heap[gd]? = some (.cells cur.toArray 5 (0, 0)) ∧ ∃ r wd i, r < wd ∧ Br K wx r wd i p .nilIface)
  case first =>
    by_cases hrw : r = wd
    · have hb8 := OK.out.b0
      have b0 := HS.out.b0
      have b1 := HS.out.b1
      have b4 := HS.out.b4
      have f4 := HS.out.fz 4
      have f2 := HS.out.fz 2
      have f3 := HS.out.fz 3
      obtain ⟨x5, b5⟩ := HS.out.b5
      obtain ⟨x6, b6⟩ := HS.out.b6
      have f5 := HS.out.fz 5
      have f6 := HS.out.fz 6
      have hm := method_read ⟨K.gb, 0, none⟩
      obtain rfl : p = i := by omega
      have ht : ((r : Int) == (wd : Int)) = true := by simp [hrw]
      have HRW := Hid.mk hrw
      have hRd : K.gR ≠ gd := fun e => HX.out (Or.inr (Or.inl e.symm))
      have hfd : K.gf ≠ gd := fun e => HX.out (Or.inr (Or.inr e.symm))
      have hbd : K.gb ≠ gd := fun e => HX.out (Or.inl e.symm)
      clear hrw
      by_cases hbig : K.B ≤ len
      · clear hpos
        by_cases hi : p < K.N
        · go_wp2_with fail
          refine (read_some K OK.out p gd off len dcap cur _ (HS.out.drewN OK.out _).src hi hlen hlm HD.out hfit (Ne.symm hbd) H3.out (by omega)).mono ?_
          rintro e w2 ⟨n, hn, rfl, hrow, hsrc, hk⟩
          have hn0 : 0 < n := by omega
          have hn1 : n ≤ len := by omega
          have hn3 : p + n ≤ K.N := by omega
          have hk1 : Kp (fun k => k = K.gb ∨ k = gd) w w2 := hk.of_drewN
          have HB2 : Hid (Br K w2 r wd (p + n) (p + n) .nilIface) := HS.out.jump OK.out hk1 (by show ¬ (1 = K.gb ∨ 1 = gd); omega) (by have := OK.out.bR; show ¬ (K.gR = K.gb ∨ K.gR = gd); omega) (by have := OK.out.bf; show ¬ (K.gf = K.gb ∨ K.gf = gd); omega) hsrc HRW.out rfl
          have HK2 : Hid (Kp (fun k => K.X k ∨ k = gd) w w2) := hk1.mono (fun k _ h => by rcases h with h | h; exact Or.inl (Or.inl h); exact Or.inr h)
          have HROW := Hid.mk hrow
          have c8 : w2.cell? ⟨gd, off + (n - 1), none⟩ = some (.int .u8 (K.S.getD (p + (n - 1)) 0)) := by
            have hl := K.length_cut OK.out p n hn3
            have h9 : (splice cur off (K.cut p n))[off + (n - 1)]? = some (.int .u8 (K.S.getD (p + (n - 1)) 0)) := by
              simp only [splice]
              rw [List.getElem?_append_right (by rw [List.length_take]; omega), List.length_take, Nat.min_eq_left (by omega), List.getElem?_append_left (by rw [hl]; omega), show off + (n - 1) - off = n - 1 from by omega, K.cut_get OK.out p n (n - 1) hn3 (by omega)]
            simp [World.cell?, hrow, h9]
          have hc8 := OK.out.byte (p + (n - 1))
          generalize K.S.getD (p + (n - 1)) 0 = c at *
          obtain ⟨t, ht1⟩ : ∃ t : Nat, n = t + 1 := ⟨n - 1, by omega⟩
          subst ht1
          rw [show t + 1 - 1 = t from by omega] at c8
          have d4 := HB2.out.b4
          obtain ⟨y5, d5⟩ := HB2.out.b5
          obtain ⟨y6, d6⟩ := HB2.out.b6
          have m4 := HB2.out.fz 4
          have m5 := HB2.out.fz 5
          have m6 := HB2.out.fz 6
          have hti : (t : Int) < (len : Int) := by omega
          clear hk hk1 hrow hsrc hn b0 b1 b2 b3 b4 b5 b6 f2 f3 f4 f5 f6
          go_wp2_with fail
          have HB3 := Hid.mk (((HB2.out.setErr OK.out .nilIface (Or.inl rfl)).setLast OK.out 5 (Or.inl rfl) c).setLast OK.out 6 (Or.inr rfl) (-1))
          have HK3 : Hid (Kp (fun k => K.X k ∨ k = gd) w (((w2.setCell ⟨K.gR, 4, none⟩ .nilIface).setCell ⟨K.gR, 5, none⟩ (.int .i64 c)).setCell ⟨K.gR, 6, none⟩ (.int .i64 (-1)))) := ((HK2.out.setCell (Or.inl (Or.inr (Or.inl rfl))) _).setCell (Or.inl (Or.inr (Or.inl rfl))) _).setCell (Or.inl (Or.inr (Or.inl rfl))) _
          have G3 : Hid ((((w2.setCell ⟨K.gR, 4, none⟩ .nilIface).setCell ⟨K.gR, 5, none⟩ (.int .i64 c)).setCell ⟨K.gR, 6, none⟩ (.int .i64 (-1))).heap[gd]? = some (.cells (splice cur off (K.cut p (t + 1))).toArray 5 (0, 0))) := by
            show _ = _
            rw [Below.heap_setCell _ _ _ _ (Ne.symm hRd), Below.heap_setCell _ _ _ _ (Ne.symm hRd), Below.heap_setCell _ _ _ _ (Ne.symm hRd)]
            exact HROW.out
          generalize ((w2.setCell ⟨K.gR, 4, none⟩ .nilIface).setCell ⟨K.gR, 5, none⟩ (.int .i64 c)).setCell ⟨K.gR, 6, none⟩ (.int .i64 (-1)) = w3 at *
          refine (readErr_any K OK.out r wd _ _ .nilIface w3 HB3.out).mono ?_
          rintro e w4 ⟨rfl, hb4, hk4⟩
          have HB4 := Hid.mk hb4
          have HK4 := Hid.mk hk4
          clear hb4 hk4
          go_wp2
          go_ret2
          exact ⟨HK3.out.trans (HK4.out.mono (fun k _ h => Or.inl h)), Or.inr ⟨t + 1, by omega, by omega, by omega, rfl, HK4.out.row G3.out HX.out, _, _, _, HB4.out⟩⟩
        · obtain rfl : K.N = p := by omega
          go_wp2_with fail
          refine (read_eof K OK.out len dcap _ _ (HS.out.drewN OK.out _).src).mono ?_
          rintro e w2 ⟨rfl, hsrc, hk⟩
          have HB2 : Hid (Br K w2 r wd K.N K.N .nilIface) := HS.out.kept OK.out hk.of_drewN (fun h => h) (fun h => h) (fun h => h) (fun h => h) (fun h => h) (fun _ _ _ h => h)
          have HK2 : Hid (Kp (fun k => K.X k ∨ k = gd) w w2) := hk.of_drewN.ofFalse
          have HD2 : Hid (w2.heap[gd]? = some (.cells cur.toArray 5 (0, 0))) := hk.of_drewN.row HD.out (fun h => h)
          have d4 := HB2.out.b4
          have m4 := HB2.out.fz 4
          clear hk hsrc b0 b1 b2 b3 b4 b5 b6 f2 f3 f4 f5 f6
          go_wp2_with fail
          refine (readErr_any K OK.out r wd _ _ _ _ (HB2.out.setErr OK.out _ (Or.inr ⟨rfl, rfl⟩))).mono ?_
          rintro e w4 ⟨rfl, hb4, hk4⟩
          have HB4 := Hid.mk hb4
          have HK4 := Hid.mk hk4
          clear hb4 hk4
          go_wp2
          go_ret2
          refine ⟨(HK2.out.setCell (Or.inl (Or.inr (Or.inl rfl))) _).trans (HK4.out.mono (fun k _ h => Or.inl h)), Or.inl ⟨rfl, rfl, HK4.out.row ?_ HX.out, _, _, _, HB4.out⟩⟩
          rw [Below.heap_setCell _ _ _ _ (Ne.symm hRd)]
          exact HD2.out
      · clear hpos
        go_wp2
        have HB1 := Hid.mk ((HS.out.drewN OK.out nq).zero OK.out HRW.out)
        have HK1 : Hid (Kp (fun k => K.X k ∨ k = gd) w (((w.drewN nq).setCell ⟨K.gR, 2, none⟩ (.int .i64 0)).setCell ⟨K.gR, 3, none⟩ (.int .i64 0))) := (((Kp.refl _ _).drewN _).setCell (Or.inl (Or.inr (Or.inl rfl))) _).setCell (Or.inl (Or.inr (Or.inl rfl))) _
        have HD1 : Hid ((((w.drewN nq).setCell ⟨K.gR, 2, none⟩ (.int .i64 0)).setCell ⟨K.gR, 3, none⟩ (.int .i64 0)).heap[gd]? = some (.cells cur.toArray 5 (0, 0))) := by
          show _ = _
          rw [Below.heap_setCell _ _ _ _ (Ne.symm hRd), Below.heap_setCell _ _ _ _ (Ne.symm hRd)]
          exact HD.out
        generalize ((w.drewN nq).setCell ⟨K.gR, 2, none⟩ (.int .i64 0)).setCell ⟨K.gR, 3, none⟩ (.int .i64 0) = w1 at *
        have e0 := HB1.out.b0
        have e1 := HB1.out.b1
        have e4 := HB1.out.b4
        have m4 := HB1.out.fz 4
        have HSRC : Hid (Src K w1.drew p) := (HB1.out.drew OK.out).src
        obtain ⟨bufc, hg, hcl, hcur⟩ := HB1.out.buf.ex
        have HG : Hid (w1.drew.heap[K.gf]? = some (.cells bufc.toArray 5 (0, 0))) := hg
        have HCL := Hid.mk hcl
        have HCUR := Hid.mk hcur
        have hsrcf : Hid (∀ b o, K.sa = some ⟨b, o, none⟩ → b ≠ K.gf) := fun b o e => (OK.out.src b o e).2.2
        have hfb : K.gf ≠ K.gb := Ne.symm OK.out.bf
        have hf0 : K.gf ≠ 0 := by have := OK.out.f0; omega
        have hB1 := OK.out.B1
        have nR : ¬ (K.gR = K.gb ∨ K.gR = K.gf) := by have := OK.out.bR; have := OK.out.Rf; omega
        clear hg hcl hcur b0 b1 b2 b3 b4 b5 b6 f2 f3 f4 f5 f6
        by_cases hi : p < K.N
        · go_region_held3 (fun w' => w'.cell? ⟨K.gR, 0, none⟩ = some (.slice (some ⟨K.gf, 0, none⟩) K.B K.B) ∧ w'.cell? ⟨K.gR, 1, none⟩ = some (.iface 42 (.pointer (some ⟨K.gb, 0, none⟩)))) (first | go_keep | (exact ⟨g0, g1⟩) | (refine ⟨?_, ?_⟩ <;> simp [go_sem, g0, g1]))
            ((go_at_call 48; refine (read_some K OK.out p K.gf 0 K.B K.B bufc _ HSRC.out hi (by omega) (by omega) HG.out (by rw [HCL.out]; omega) hfb hsrcf.out hf0).mono ?_; rintro e w2 ⟨n, hn, rfl, hrow, hsrc2, hk2⟩; have HN := Hid.mk hn; have HROW := Hid.mk hrow; have HSRC2 := Hid.mk hsrc2; have HK2 := Hid.mk hk2; have g0 := hk2.cell (a := ⟨K.gR, 0, none⟩) nR e0; have g1 := hk2.cell (a := ⟨K.gR, 1, none⟩) nR e1; have g4 := hk2.cell (a := ⟨K.gR, 4, none⟩) nR e4; have q4 : w2.frozen? ⟨K.gR, 4, none⟩ = false := (hk2.frozen (a := ⟨K.gR, 4, none⟩) HB1.out.lt nR).trans m4; clear hn hrow hsrc2 hk2))
          have hn := HN.out
          have hn0 : 0 < n := by omega
          have hn2 : n ≤ K.B := by omega
          have hn3 : p + n ≤ K.N := by omega
          have hni : ((n : Int) == 0) = false := by simp; omega
          have k12 : Kp (fun k => k = K.gb ∨ k = K.gf) w1 w2 := HK2.out.of_drew
          have K12 := Hid.mk k12
          have g3 : w2.cell? ⟨K.gR, 3, none⟩ = some (.int .i64 0) := k12.cell (a := ⟨K.gR, 3, none⟩) nR HB1.out.b3
          have q3 : w2.frozen? ⟨K.gR, 3, none⟩ = false := (k12.frozen (a := ⟨K.gR, 3, none⟩) HB1.out.lt nR).trans (HB1.out.fz 3)
          clear hn k12
          go_wp2
          go_meet
          have HF := HB1.out.filled4 OK.out bufc HCL.out K12.out HSRC2.out HROW.out hn3 hn2
          have HKF : Kp (fun k => K.X k ∨ k = gd) w ((w2.setCell ⟨K.gR, 4, none⟩ .nilIface).setCell ⟨K.gR, 3, none⟩ (.int .i64 n)) := ((HK1.out.trans (K12.out.mono (fun k _ h => by rcases h with h | h; exact Or.inl (Or.inl h); exact Or.inl (Or.inr (Or.inr h))))).setCell (Or.inl (Or.inr (Or.inl rfl))) _).setCell (Or.inl (Or.inr (Or.inl rfl))) _
          have HDF : ((w2.setCell ⟨K.gR, 4, none⟩ .nilIface).setCell ⟨K.gR, 3, none⟩ (.int .i64 n)).heap[gd]? = some (.cells cur.toArray 5 (0, 0)) := by
            rw [Below.heap_setCell _ _ _ _ (Ne.symm hRd), Below.heap_setCell _ _ _ _ (Ne.symm hRd)]
            exact K12.out.row HD1.out (by intro h; rcases h with h | h; exact hbd h.symm; exact hfd h.symm)
          first
            | exact ⟨HKF, HDF, 0, n, p + n, hn0, HF⟩
            | exact ⟨HKF.drew, HDF, 0, n, p + n, hn0, HF.drew OK.out⟩
        · obtain rfl : K.N = p := by omega
          go_region_held3 (fun w' => w'.cell? ⟨K.gR, 0, none⟩ = some (.slice (some ⟨K.gf, 0, none⟩) K.B K.B) ∧ w'.cell? ⟨K.gR, 1, none⟩ = some (.iface 42 (.pointer (some ⟨K.gb, 0, none⟩)))) (first | go_keep | (exact ⟨g0, g1⟩) | (refine ⟨?_, ?_⟩ <;> simp [go_sem, g0, g1]))
            ((go_at_call 48; refine (read_eof K OK.out K.B K.B _ _ HSRC.out).mono ?_; rintro e w2 ⟨rfl, hsrc2, hk2⟩; have HK2 := Hid.mk hk2; have g0 := hk2.cell (a := ⟨K.gR, 0, none⟩) (fun h => h) e0; have g1 := hk2.cell (a := ⟨K.gR, 1, none⟩) (fun h => h) e1; have g4 := hk2.cell (a := ⟨K.gR, 4, none⟩) (fun h => h) e4; have q4 : w2.frozen? ⟨K.gR, 4, none⟩ = false := (hk2.frozen (a := ⟨K.gR, 4, none⟩) HB1.out.lt (fun h => h)).trans m4; clear hsrc2 hk2))
          have k12 : Kp (fun _ => False) w1 w2 := HK2.out.of_drew
          have K12 := Hid.mk k12
          have HB2 : Hid (Br K w2 0 0 K.N K.N .nilIface) := HB1.out.kept OK.out k12 (fun h => h) (fun h => h) (fun h => h) (fun h => h) (fun h => h) (fun _ _ _ h => h)
          have HD2 : Hid (w2.heap[gd]? = some (.cells cur.toArray 5 (0, 0))) := K12.out.row HD1.out (fun h => h)
          clear k12
          go_wp2_with fail
          refine (readErr_any K OK.out 0 0 _ _ _ _ (HB2.out.setErr OK.out _ (Or.inr ⟨rfl, rfl⟩))).mono ?_
          rintro e w4 ⟨rfl, hb4, hk4⟩
          have HB4 := Hid.mk hb4
          have HK4 := Hid.mk hk4
          clear hb4 hk4
          go_wp2
          go_ret2
          refine ⟨((HK1.out.trans K12.out.ofFalse).setCell (Or.inl (Or.inr (Or.inl rfl))) _).trans (HK4.out.mono (fun k _ h => Or.inl h)), Or.inl ⟨rfl, rfl, HK4.out.row ?_ HX.out, _, _, _, HB4.out⟩⟩
          rw [Below.heap_setCell _ _ _ _ (Ne.symm hRd)]
          exact HD2.out
    · have ht : ((r : Int) == (wd : Int)) = false := by simp; omega
      go_wp2
      go_meet
      exact ⟨(Kp.refl _ _).drewN _, HD.out, r, wd, i, by omega, HS.out.drewN OK.out _⟩
  case rest =>
    clear h1 h2 hpos hle b2 b3 HS HD
    obtain ⟨hk, hd, r, wd, i, hlt, hbr⟩ := hcut
    have HK := Hid.mk hk
    have HD := Hid.mk hd
    have HB := Hid.mk hbr
    have h1 := hbr.rw
    have h2 := hbr.w4
    have hpos := hbr.pos
    have hle := hbr.src.le
    have b0 := hbr.b0
    have b2 := hbr.b2
    have b3 := hbr.b3
    obtain ⟨bufc, hg, hcl, hcur⟩ := hbr.buf.ex
    obtain ⟨x5, b5⟩ := hbr.b5
    obtain ⟨x6, b6⟩ := hbr.b6
    have f2 := hbr.fz 2
    have f5 := hbr.fz 5
    have f6 := hbr.fz 6
    obtain ⟨n, hn⟩ : ∃ n, n = min (wd - r) len := ⟨_, rfl⟩
    have hn0 : 0 < n := by omega
    have hn1 : n ≤ len := by omega
    have hn2 : r + n ≤ wd := by omega
    have hn3 : p + n ≤ K.N := by omega
    have HCL : Hid ((K.cut p n).length = n) := K.length_cut OK.out p n hn3
    have K1 : Hid ((K.cut p n).length = Nat.min (wd - r) len) := by show _ = _; rw [HCL.out]; exact hn
    have K2 : Hid (∀ j v, (K.cut p n)[j]? = some v → wc.cell? ((⟨K.gf, r, none⟩ : Addr).add j) = some v) := by
      intro j v hj
      have hjn : j < n := by
        have h5 := (List.getElem?_eq_some_iff.1 hj).1
        rw [HCL.out] at h5
        exact h5
      rw [K.cut_get OK.out p n j hn3 hjn] at hj
      rw [Addr.add_lit, hbr.buf.cell (r + j) (by omega) (by omega), show p + (r + j - r) = p + j from by omega]
      exact hj
    have K3 : Hid (off + (K.cut p n).length ≤ cur.length) := by show _ ≤ _; rw [HCL.out]; omega
    have K4 : Hid (∀ v ∈ K.cut p n, v.oneCell' = true) := K.cut_one p n
    have hne : ¬ K.B = r := by omega
    have hsl0 : (0 : Int) ≤ (r : Int) := by omega
    have hsl1 : (r : Int) ≤ (wd : Int) := by omega
    have hsl2 : (wd : Int) ≤ (K.B : Int) := by omega
    have hRd : K.gR ≠ gd := fun e => HX.out (Or.inr (Or.inl e.symm))
    have hfd : K.gf ≠ gd := fun e => HX.out (Or.inr (Or.inr e.symm))
    have hbd : K.gb ≠ gd := fun e => HX.out (Or.inl e.symm)
    clear hk hd hbr hg hcl hcur hn
    generalize hcs : K.cut p n = cs at *
    have HCS := Hid.mk hcs
    clear hcs
    go_wp2
    go_region_held3 (fun w' => w'.cell? ⟨K.gR, 0, none⟩ = some (.slice (some ⟨K.gf, 0, none⟩) K.B K.B) ∧ w'.cell? ⟨K.gR, 2, none⟩ = some (.int .i64 r) ∧ w'.cell? ⟨K.gR, 3, none⟩ = some (.int .i64 wd)) (first | go_keep | (exact ⟨((‹Hid (Poke gd wc.drew _)›).out.cell hRd).trans b0, ((‹Hid (Poke gd wc.drew _)›).out.cell hRd).trans b2, ((‹Hid (Poke gd wc.drew _)›).out.cell hRd).trans b3⟩))
      ((refine step_copy rfl (.tmp 109) (.tmp 122) 22 22 rfl 5 Tryd.underlying22 Tryd.size5 (some ⟨gd, off, none⟩) (some ⟨K.gf, r, none⟩) len dcap (wd - r) (K.B - r) (by simp [Act.eval, Act.put]) (by simp [Act.eval, Act.put]) gd off cur 5 HD.out cs K1.out (fun _ => ⟨rfl, _, rfl, K2.out⟩) K3.out K4.out ?_; intro w2 hg2 hp2))
    rw [HCL.out]
    have p2 : Poke gd wc w2 := ((‹Hid (Poke gd wc.drew w2)›).out).of_drew
    have P2 := Hid.mk p2
    have G2 : Hid (w2.heap[gd]? = some (.cells (splice cur off cs).toArray 5 (0, 0))) := ‹Hid (w2.heap[gd]? = _)›
    have HB2 : Hid (Br K w2 r wd i p .nilIface) := HB.out.kept OK.out ((Kp.refl (fun k => k = gd) _).poke rfl p2) (by show ¬ 0 = gd; omega) (by show ¬ 1 = gd; omega) hbd hRd hfd H3.out
    have e2 := HB2.out.b2
    have e0 := HB2.out.b0
    have g2 := HB2.out.fz 2
    have hwrap : IntKind.i64.wrap ((r : Int) + (n : Int) - 1) = (r : Int) + (n : Int) - 1 := by rw [IntKind.wrap_i64]; omega
    have c8 := HB2.out.buf.cell (r + n - 1) (by omega) (by omega)
    have hc8 := OK.out.byte (p + (r + n - 1 - r))
    generalize K.S.getD (p + (r + n - 1 - r)) 0 = c at *
    have hRf : K.gR ≠ K.gf := OK.out.Rf
    have hfR : K.gf ≠ K.gR := Ne.symm hRf
    clear p2 b0 b2 b3 b5 b6 f2 f5 f6
    go_wp2
    have HB3 := Hid.mk (HB2.out.setR OK.out n hn2)
    have HK3 : Hid (Kp (fun k => K.X k ∨ k = gd) w (w2.setCell ⟨K.gR, 2, none⟩ (.int .i64 ((r : Int) + (n : Int))))) := ((HK.out.poke (Or.inr rfl) P2.out)).setCell (Or.inl (Or.inr (Or.inl rfl))) _
    have G3 : Hid ((w2.setCell ⟨K.gR, 2, none⟩ (.int .i64 ((r : Int) + (n : Int)))).heap[gd]? = some (.cells (splice cur off cs).toArray 5 (0, 0))) := by
      show _ = _
      rw [Below.heap_setCell _ _ _ _ (Ne.symm hRd)]
      exact G2.out
    have c9 : (w2.setCell ⟨K.gR, 2, none⟩ (.int .i64 ((r : Int) + (n : Int)))).cell? ⟨K.gf, r + n - 1, none⟩ = some (.int .u8 c) := (World.cell?_of_block (w := w2) (Below.heap_setCell _ _ _ _ hfR)).trans c8
    generalize w2.setCell ⟨K.gR, 2, none⟩ (.int .i64 ((r : Int) + (n : Int))) = w3 at *
    have d0 := HB3.out.b0
    have d2 := HB3.out.b2
    rw [show ((r + n : Nat) : Int) = (r : Int) + (n : Int) from by omega] at d2
    obtain ⟨y5, d5⟩ := HB3.out.b5
    obtain ⟨y6, d6⟩ := HB3.out.b6
    have m5 := HB3.out.fz 5
    have m6 := HB3.out.fz 6
    obtain ⟨t, ht⟩ : ∃ t : Nat, r + n - 1 = t := ⟨_, rfl⟩
    rw [ht] at c9
    have hwrap2 : IntKind.i64.wrap ((r : Int) + (n : Int) - 1) = (t : Int) := by rw [hwrap]; omega
    have hix0 : (0 : Int) ≤ (t : Int) := by omega
    have hix1 : (t : Int) < (K.B : Int) := by omega
    have hwc : IntKind.i64.wrap c = c := by rw [IntKind.wrap_i64]; omega
    clear e0 e2 g2 c8 P2 G2 HB2 hwrap ht
    go_region
    go_wp2
    go_ret2
    have HB4 := (HB3.out.setLast OK.out 5 (Or.inl rfl) c).setLast OK.out 6 (Or.inr rfl) (-1)
    have HK4 : Kp (fun k => K.X k ∨ k = gd) w ((w3.setCell ⟨K.gR, 5, none⟩ (.int .i64 c)).setCell ⟨K.gR, 6, none⟩ (.int .i64 (-1))) := (HK3.out.setCell (Or.inl (Or.inr (Or.inl rfl))) _).setCell (Or.inl (Or.inr (Or.inl rfl))) _
    have G4 : ((w3.setCell ⟨K.gR, 5, none⟩ (.int .i64 c)).setCell ⟨K.gR, 6, none⟩ (.int .i64 (-1))).heap[gd]? = some (.cells (splice cur off cs).toArray 5 (0, 0)) := by
      rw [Below.heap_setCell _ _ _ _ (Ne.symm hRd), Below.heap_setCell _ _ _ _ (Ne.symm hRd)]
      exact G3.out
    exact ⟨HK4.drew, Or.inr ⟨n, hn0, hn1, hn3, rfl, by rw [HCS.out]; exact G4, _, _, _, HB4.drew OK.out⟩⟩
end Go.Proofs.Qxb6606225aDoor
