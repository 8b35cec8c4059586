/-
  The walk of (*frame.Reader).next.
-/
import Derived.Test.Qxb6606225aDoorFull
namespace Go.Proofs.Qxb6606225aDoor
open Go.ChangeShapes Go.WideShapes Go.ChangeAt Go.RowKit
set_option linter.unusedVariables false
set_option linter.unusedSimpArgs false

theorem prefix_ok (K : Cfg) (ok : K.Ok) (r wd i p : Nat) (w : World) (hs : Br K w r wd i p .nilIface) (hp : p + 4 ≤ K.N) :
    Calls Tryd.prog 19 #[.pointer (some ⟨K.gR, 0, none⟩)] w fun e w' => e = .returned (.tuple #[.int .u64 (K.le4 p), .nilIface]) ∧ Kp K.X w w' ∧ ∃ r wd i, Br K w' r wd i (p + 4) .nilIface := by
  refine (prefix_any K ok r wd i p w hs).mono ?_
  rintro e w' ⟨hk, h | h⟩
  · exact ⟨h.2.1, hk, h.2.2⟩
  · omega
theorem prefix_err (K : Cfg) (ok : K.Ok) (r wd i p : Nat) (w : World) (hs : Br K w r wd i p .nilIface) (hp : K.N < p + 4) :
    Calls Tryd.prog 19 #[.pointer (some ⟨K.gR, 0, none⟩)] w fun e w' => ∃ a, e = .returned (.tuple #[.int .u64 0, .iface 75 (.pointer (some a))]) ∧ Kp K.X w w' := by
  refine (prefix_any K ok r wd i p w hs).mono ?_
  rintro e w' ⟨hk, h | ⟨_, a, he⟩⟩
  · omega
  · exact ⟨a, he, hk⟩

/-- The frame.Reader: its bufio.Reader, its limit, its way of reading a size. -/
structure Fr (K : Cfg) (gF : Nat) (mx : Int) (w : World) : Prop where
  f0 : w.cell? ⟨gF, 0, none⟩ = some (.pointer (some ⟨K.gR, 0, none⟩))
  f1 : w.cell? ⟨gF, 1, none⟩ = some (.int .u64 mx)
  f3 : w.cell? ⟨gF, 3, none⟩ = some (.func (.func 19) #[] #[])
  nx : ¬ K.X gF

theorem Fr.kept {K : Cfg} {gF : Nat} {mx : Int} {w w' : World} (h : Fr K gF mx w) (hk : Kp K.X w w') : Fr K gF mx w' :=
  ⟨hk.cell h.nx h.f0, hk.cell h.nx h.f1, hk.cell h.nx h.f3, h.nx⟩

/-- What next answers at place p. -/
def NextDone (K : Cfg) (p : Nat) (mx : Int) (w w' : World) (e : Ending) : Prop :=
  Kp K.X w w' ∧
    ((p + 4 ≤ K.N ∧ K.le4 p ≤ mx ∧ ∃ (n g o c : Nat), K.le4 p = n ∧ p + 4 + n ≤ K.N ∧ e = .returned (.tuple #[.slice (some ⟨g, o, none⟩) n c, .nilIface]) ∧ Lies w' (some ⟨g, o, none⟩) ((K.S.drop (p + 4)).take n) ∧ ∃ r wd i, Br K w' r wd i (p + 4 + n) .nilIface) ∨
     (¬ (p + 4 ≤ K.N ∧ K.le4 p ≤ mx ∧ (p : Int) + 4 + K.le4 p ≤ K.N) ∧ ∃ (t : Nat) (a : Addr), e = .returned (.tuple #[.slice none 0 0, .iface t (.pointer (some a))])))

theorem lies_cut (K : Cfg) (ok : K.Ok) (w : World) (g o p n : Nat) (hn : p + n ≤ K.N) (h : ∀ j, j < n → w.cell? ⟨g, o + j, none⟩ = some (.int .u8 (K.S.getD (p + j) 0))) : Lies w (some ⟨g, o, none⟩) ((K.S.drop p).take n) := by
  refine Or.inr ⟨g, o, rfl, fun j hj => ?_⟩
  have hl := ok.len
  rw [List.length_take, List.length_drop] at hj
  rw [h j (by omega)]
  congr 2
  rw [List.getD, List.getD, List.getElem?_take_of_lt (by omega), List.getElem?_drop]

set_option maxRecDepth 100000 in
set_option maxHeartbeats 4000000 in
theorem next_any (K : Cfg) (ok : K.Ok) (gF : Nat) (mx : Int) (r wd i p : Nat) (w : World) (hs : Br K w r wd i p .nilIface) (hf : Fr K gF mx w) (hsen : Sen K w) (hbig : K.le4 p ≤ mx → K.le4 p ≤ 1000000000) (hmx : 0 ≤ mx ∧ mx ≤ 9223372036854775807) (hw8 : 8 ≤ w.heap.size) :
    Calls Tryd.prog 17 #[.pointer (some ⟨gF, 0, none⟩)] w fun e w' => NextDone K p mx w w' e := by
  have OK := Hid.mk ok
  have HS := Hid.mk hs
  have HF := Hid.mk hf
  have HSEN := Hid.mk hsen
  have HBIG := Hid.mk hbig
  obtain ⟨m0, m1⟩ := hmx
  have f0 := hf.f0
  have f1 := hf.f1
  have f3 := hf.f3
  have hB1 := ok.B1
  have hB2 := ok.B2
  have HBR : Hid (Br K w.drew r wd i p .nilIface) := hs.drew ok
  clear hs ok hf hsen hbig
  go_enter Tryd.func17, Tryd.ntmps17
  go_wp2
  by_cases hp4 : p + 4 ≤ K.N
  · go_region_held3 (fun w' => w'.cell? ⟨gF, 0, none⟩ = some (.pointer (some ⟨K.gR, 0, none⟩)) ∧ w'.cell? ⟨gF, 3, none⟩ = some (.func (.func 19) #[] #[])) (first | go_keep | (exact ⟨g0, g3⟩))
      ((go_at_call 19; refine (prefix_ok K OK.out r wd i p _ HBR.out hp4).mono ?_; rintro e w1 ⟨rfl, hk1, r1, wd1, i1, hb1⟩; have HK1 := Hid.mk hk1; have HB1 := Hid.mk hb1; have g0 := hk1.cell (a := ⟨gF, 0, none⟩) HF.out.nx f0; have g3 := hk1.cell (a := ⟨gF, 3, none⟩) HF.out.nx f3; clear hk1 hb1))
    have hk01 : Kp K.X w w1 := HK1.out.of_drew
    have HK01 := Hid.mk hk01
    have HF1 := Hid.mk (HF.out.kept hk01)
    have HSEN1 := Hid.mk (HSEN.out.kept hk01)
    have k0 := HF1.out.f0
    have k1 := HF1.out.f1
    have hv := K.le4_bound OK.out p
    have hws : 8 ≤ w1.heap.size := Nat.le_trans hw8 hk01.size
    clear hk01 f0 f1 f3 g0 g3 HBR HK1
    generalize hvv : K.le4 p = v at *
    have HV := Hid.mk hvv
    clear hvv
    obtain ⟨hv0, hv1⟩ := hv
    by_cases hmv : mx < v
    · go_wp2
      go_region
      go_wp2
      go_ret2
      refine ⟨?_, Or.inr ⟨by rw [HV.out]; omega, _, _, rfl⟩⟩
      first
        | exact (HK01.out.alloc _).drew
        | exact HK01.out.drew.alloc _
    · have hvb := HBIG.out (by omega)
      obtain ⟨n, hn⟩ : ∃ n : Nat, v = (n : Int) := ⟨v.toNat, by omega⟩
      subst hn
      by_cases hnB : n ≤ K.B
      · go_wp2_with fail
        refine (size_any K r1 wd1 i1 (p + 4) .nilIface w1 HB1.out).mono ?_
        rintro e w2 ⟨rfl, hw2⟩
        obtain rfl : w2 = w1 := hw2
        go_wp2_with fail
        refine (peek_any K OK.out r1 wd1 i1 (p + 4) n _ HB1.out hnB).mono ?_
        rintro e w2 ⟨r2, wd2, i2, m, o, c, err, rfl, hb2, hk2, hrm, ho, hcase⟩
        have HB2 := Hid.mk hb2
        have HK2 := Hid.mk hk2
        have HO := Hid.mk ho
        have HF2 := Hid.mk (HF1.out.kept hk2)
        have q0 := HF2.out.f0
        have hE := hb2.src.eof
        have hU := hb2.unx
        have hw4 := hb2.w4
        clear hb2 hk2 ho k0 k1
        rcases hcase with ⟨rfl, hpn, rfl⟩ | ⟨hpn, hm, rfl⟩
        · have hq := eql_nil K.ea
          go_wp2_with fail
          refine (discard_any K OK.out r2 wd2 i2 (p + 4) m .nilIface w2 HB2.out hrm).mono ?_
          rintro e w3 ⟨⟨vv, rfl⟩, hb3, hk3⟩
          have HB3 := Hid.mk hb3
          have HK3 := Hid.mk hk3
          have hE := hb3.src.eof
          have hU := hb3.unx
          clear hb3 hk3
          go_wp2
          go_ret2
          refine ⟨HK01.out.trans (HK2.out.trans HK3.out.toX), Or.inl ⟨hp4, by rw [HV.out]; omega, m, K.gf, o, c, HV.out, hpn, rfl, ?_, _, _, _, HB3.out⟩⟩
          refine lies_cut K OK.out w3 K.gf o (p + 4) m hpn fun j hj => ?_
          obtain rfl := HO.out (by omega)
          have h9 := HB2.out.buf.cell (o + j) (by omega) (by omega)
          rw [show p + 4 + (o + j - o) = p + 4 + j from by omega] at h9
          exact HK3.out.cell (a := ⟨K.gf, o + j, none⟩) (Ne.symm OK.out.Rf) h9
        · have hq := eql_same K.ea
          have HM := Hid.mk hm
          clear hm
          go_wp2_with fail
          refine (discard_any K OK.out r2 wd2 i2 (p + 4) m .nilIface w2 HB2.out hrm).mono ?_
          rintro e w3 ⟨⟨vv, rfl⟩, hb3, hk3⟩
          have HK3 := Hid.mk hk3
          have hE := hb3.src.eof
          have hU := hb3.unx
          clear hb3 hk3
          go_wp2
          go_ret2
          exact ⟨HK01.out.trans (HK2.out.trans HK3.out.toX), Or.inr ⟨by rw [HV.out]; omega, _, _, rfl⟩⟩
      · have hmk := run_make_row' (P := Tryd.prog) 22 5 (.int .u8 0) 1 Tryd.underlying22 Tryd.info5 rfl .u64 .u64 n (by omega) (by omega)
        go_wp2_with fail
        refine (size_any K r1 wd1 i1 (p + 4) .nilIface w1 HB1.out).mono ?_
        rintro e w2 ⟨rfl, hw2⟩
        obtain rfl : w2 = w1 := hw2
        have GOT : Hid (Got K (w2.alloc (.cells (madeCells #[Value.int .u8 0] n) 5)) w2.heap.size n (p + 4) 0) := by
          obtain ⟨c, h1, h2, _⟩ := World.rowIs_made w2 (.int .u8 0) n 5
          exact ⟨c.toList, by simpa using h1, by simpa using h2, fun j hj => by omega⟩
        have HB2 : Hid (Br K (w2.alloc (.cells (madeCells #[Value.int .u8 0] n) 5)) r1 wd1 i1 (p + 4) .nilIface) := HB1.out.kept OK.out (X := fun _ => False) ((Kp.refl _ _).alloc _) (fun h => h) (fun h => h) (fun h => h) (fun h => h) (fun h => h) (fun _ _ _ h => h)
        have l1 := HB1.out.src.lt
        have l2 := HB1.out.lt
        have l3 := HB1.out.flt
        have HXn : Hid (¬ K.X w2.heap.size) := by
          intro h
          rcases h with h | h | h <;> omega
        have H3 : Hid (∀ b o, K.sa = some ⟨b, o, none⟩ → b ≠ w2.heap.size) := by
          intro b o e
          have hN := OK.out.len
          obtain ⟨b', o', e', hc⟩ := HB1.out.src.lies.at (by omega)
          rw [e'] at e
          obtain ⟨rfl, _⟩ : b' = b ∧ o' = o := by simpa using e
          have h9 := World.block_lt_of_cell? w2 _ (hc 0 (by omega))
          exact Nat.ne_of_lt h9
        have k0' : (w2.alloc (.cells (madeCells #[Value.int .u8 0] n) 5)).cell? ⟨gF, 0, none⟩ = some (.pointer (some ⟨K.gR, 0, none⟩)) := ((Kp.refl (fun _ => False) _).alloc _).cell (fun h => h) k0
        have hnx := HF1.out.nx
        clear l1 l2 l3
        go_wp2_with fail
        refine (full_any K OK.out r1 wd1 i1 (p + 4) w2.heap.size n _ HB2.out (by omega) (by omega) GOT.out HXn.out H3.out hws).mono ?_
        rintro e w3 ⟨hk3, hcase⟩
        have HK3 : Hid (Kp K.X w2 w3) := (((Kp.refl (fun k => K.X k ∨ k = w2.heap.size) w2).alloc _).trans hk3).mono (fun k hk h => by rcases h with h | h; exact h; omega)
        have HSEN3 := Hid.mk (HSEN1.out.kept HK3.out)
        have hE := HK3.out.cell (a := ⟨0, 0, none⟩) (by intro h; have := OK.out.b0; have := OK.out.R0; have := OK.out.f0; rcases h with h | h | h <;> (have h' : 0 = _ := h; omega)) HB1.out.src.eof
        have hU := HK3.out.cell (a := ⟨1, 0, none⟩) (by intro h; have := OK.out.b0; have := OK.out.R0; have := OK.out.f0; rcases h with h | h | h <;> (have h' : 1 = _ := h; omega)) HB1.out.unx
        clear hk3
        rcases hcase with ⟨hpn, rfl, hgot, r3, wd3, i3, hb3⟩ | ⟨hpn, n3, a3, ha3, rfl⟩
        · have HGOT := Hid.mk hgot
          have HB3 := Hid.mk hb3
          have hq := eql_nil K.ea
          clear hgot hb3
          go_wp2
          go_ret2
          refine ⟨HK01.out.trans HK3.out, Or.inl ⟨hp4, by rw [HV.out]; omega, n, w2.heap.size, 0, n, HV.out, hpn, rfl, ?_, _, _, _, HB3.out⟩⟩
          refine lies_cut K OK.out w3 _ 0 (p + 4) n hpn fun j hj => ?_
          obtain ⟨cur, h1, h2, h3⟩ := HGOT.out
          simp [World.cell?, h1, h3 j hj]
        · by_cases hae : a3 = K.ea
          · subst hae
            have hq := eql_same K.ea
            go_wp2
            go_ret2
            exact ⟨HK01.out.trans HK3.out, Or.inr ⟨by rw [HV.out]; omega, _, _, rfl⟩⟩
          · obtain rfl : K.ua = a3 := by
              rcases ha3 with h | h
              · exact absurd h hae
              · exact h.symm
            have hq := eql_other K.ua K.ea w3 hae HSEN3.out.u HSEN3.out.e
            go_wp2
            go_ret2
            exact ⟨HK01.out.trans HK3.out, Or.inr ⟨by rw [HV.out]; omega, _, _, rfl⟩⟩
  · go_region_held3 (fun w' => w'.cell? ⟨gF, 0, none⟩ = some (.pointer (some ⟨K.gR, 0, none⟩)) ∧ w'.cell? ⟨gF, 3, none⟩ = some (.func (.func 19) #[] #[])) (first | go_keep | (exact ⟨g0, g3⟩))
      ((go_at_call 19; refine (prefix_err K OK.out r wd i p _ HBR.out (by omega)).mono ?_; rintro e w1 ⟨ae, rfl, hk1⟩; have HK1 := Hid.mk hk1; have g0 := hk1.cell (a := ⟨gF, 0, none⟩) HF.out.nx f0; have g3 := hk1.cell (a := ⟨gF, 3, none⟩) HF.out.nx f3; clear hk1))
    go_wp2
    go_ret2
    exact ⟨HK1.out.of_drew, Or.inr ⟨fun h => hp4 h.1, _, _, rfl⟩⟩
end Go.Proofs.Qxb6606225aDoor
