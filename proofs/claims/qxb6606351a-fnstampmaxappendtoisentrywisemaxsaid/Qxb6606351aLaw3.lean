/-
  The walk of the law 'appendTo is the entrywise largest'.
-/
import Derived.Test.Qxb6606351aLaw4
import Derived.Test.Qxb6606351aZzc
import Derived.Test.Qxb6606351aEmax
import Derived.Test.Qxb6606351aFree
namespace Go.Proofs.Qxb6606351a
open Go.ChangeShapes Go.WideShapes Go.ChangeAt Go.RowKit
set_option linter.unusedVariables false
set_option linter.unusedSimpArgs false

theorem sam_quiet (a1 a2 : Option Addr) (n c1 c2 : Nat) (es : List E) (w : World) (k j : Nat) (hz : es.length = n) (hn : n ≤ 10000000) (h1 : Ents w a1 es) (h2 : Ents w a2 es) :
    Calls Try.prog 17 #[.slice a1 n c1, .slice a2 n c2] (w.drewN (k + j)) fun e w' => e = .returned (.bool true) ∧ ∃ m, w' = w.drewN (k + m) :=
  (sam_any a1 a2 n c1 c2 es (w.drewN (k + j)) hz hn h1 h2).mono fun _ _ ⟨he, m, hm⟩ => ⟨he, j + m, by rw [hm, World.drewN_drewN, Nat.add_assoc]⟩

theorem getD_left (a b : List E) (i : Nat) (h : i < a.length) : (a ++ b).getD i (0, 0) = a.getD i (0, 0) := by
  simp [List.getD, List.getElem?_append_left h]
theorem getD_right (a b : List E) (i : Nat) : (a ++ b).getD (a.length + i) (0, 0) = b.getD i (0, 0) := by
  simp [List.getD, List.getElem?_append_right]

/-- The tail of a row of entries. -/
theorem ents_tail {w : World} {g : Nat} {a b : List E} (h : Ents w (some ⟨g, 0, none⟩) (a ++ b)) : Ents w (some ⟨g, a.length * 2, none⟩) b := by
  by_cases hb : b = []
  · exact Or.inl hb
  · have hp : 0 < b.length := List.length_pos_iff.2 hb
    obtain ⟨g', o, e, hc⟩ := h.at (by rw [List.length_append]; omega)
    have e' := Option.some.inj e
    injection e' with e1 e2
    subst e1 e2
    refine Or.inr ⟨g, a.length * 2, rfl, fun i hi => ?_⟩
    obtain ⟨h1, h2⟩ := hc (a.length + i) (by rw [List.length_append]; omega)
    rw [getD_right] at h1 h2
    rw [show 0 + (a.length + i) * 2 = a.length * 2 + i * 2 from by omega] at h1 h2
    exact ⟨h1, h2⟩

/-- The rooms of the free list, cell by cell. -/
theorem rooms_cells {w : World} {aR : Option Addr} {n cR : Nat} {R : List Value} (fro : w.ownsRow 0 34 1 (.slice aR n cR) R.length R) (ro : ∀ r ∈ R, w.ownsRow 0 39 2 r 0 []) :
    ∀ i, i < R.length → ∃ g, aR = some ⟨g, 0, none⟩ ∧ ∃ a c, w.cell? ⟨g, i, none⟩ = some (.slice a 0 c) := by
  intro i hi
  rcases fro.2 with ⟨_, h0⟩ | ⟨g, cap, cur, hv, _⟩
  · omega
  · injection hv with e1 e2 e3
    subst e1
    have h1 := fro.cells (g := g) rfl i R[i] (by simp [hi])
    rw [Addr.add_lit, Nat.zero_add] at h1
    obtain ⟨a, c, hr⟩ := own_slice (ro R[i] (List.getElem_mem hi))
    rw [hr] at h1
    exact ⟨g, rfl, a, c, h1⟩

set_option maxRecDepth 100000 in
set_option maxHeartbeats 4000000 in
theorem law3_any (aL aB al aF a5 : Option Addr) (n cL nb cB ll cl nf cF d5 c5 : Nat) (x : Int) (L Lf : Nat → List E) (A Af : Nat → Option Addr) (C Cf' : Nat → Nat) (F : Nat → Bool) (el e5 : List E) (w : World)
    (hL : MatIn w aL n cL L A C) (hB : BoolsIn w aB nb F) (hBn : aB = none → nb = 0 ∧ cB = 0) (hl : EntIn w al ll cl el) (hF : MatIn w aF nf cF Lf Af Cf') (h5 : EntIn w a5 d5 c5 e5)
    (hn : n ≤ 9223372036854775807) (hnb : nb ≤ 9223372036854775807) (hll : ll ≤ 9223372036854775807) (hnf : nf ≤ 9223372036854775807) (hd5 : d5 ≤ 9223372036854775807) (hpos : ∀ i, i < n → ∀ y ∈ L i, (0 : Int) ≤ y.2) (hposl : ∀ y ∈ el, (0 : Int) ≤ y.2) :
    Calls Try.prog 3 #[.slice aL n cL, .slice aB nb cB, .slice al ll cl, .int .i64 x, .slice aF nf cF, .slice a5 d5 c5] w fun e w' => LawOut w w' e := by
  have HL := Hid.mk hL
  have HB := Hid.mk hB
  have HBN := Hid.mk hBn
  have Hl := Hid.mk hl
  have HF := Hid.mk hF
  have H5 := Hid.mk h5
  have HPOS := Hid.mk hpos
  have HPOSL := Hid.mk hposl
  clear hL hB hBn hl hF h5 hpos hposl
  go_enter Try.func3, Try.ntmps3
  go_wp2_with fail
  refine (zzb1_any aL aB al aF a5 n cL nb cB ll cl nf cF d5 c5 (.int .i64 x) L Lf A Af C Cf' w HL.out.rws HF.out.rws hn hnb hll hnf hd5 HL.out.lens HF.out.lens).mono ?_
  rintro e w1 ⟨⟨m1, hw1⟩, r1, rfl, hr1⟩
  have HW1 := Hid.mk (show Below w.heap.size w w1 by rw [hw1]; exact below_drewN w m1)
  have HR1 := Hid.mk hr1
  clear hw1 hr1
  cases r1 with
  | false =>
    go_wp2
    go_ret
    exact ⟨rfl, HW1.out⟩
  | true =>
    by_cases g1 : 65536 < n
    · go_wp2
      go_ret
      exact ⟨rfl, HW1.out⟩
    by_cases g2 : 65536 < nb
    · go_wp2
      go_ret
      exact ⟨rfl, HW1.out⟩
    by_cases g3 : 65536 < ll
    · go_wp2
      go_ret
      exact ⟨rfl, HW1.out⟩
    by_cases g4 : 65536 < nf
    · go_wp2
      go_ret
      exact ⟨rfl, HW1.out⟩
    by_cases g5 : 65536 < d5
    · go_wp2
      go_ret
      exact ⟨rfl, HW1.out⟩
    obtain ⟨lenL, lenF⟩ := HR1.out rfl
    have HLL := Hid.mk lenL
    have HLF := Hid.mk lenF
    clear lenL lenF
    go_wp2_with fail
    refine (byt_any aL aB al aF a5 none n cL nb cB ll cl nf cF d5 c5 0 0 L Lf A Af C Cf' w1 (HL.out.rws.below HW1.out) (HF.out.rws.below HW1.out) (by omega) (by omega) (by omega) (by omega) (by omega) (by omega) HLL.out HLF.out).mono ?_
    rintro e w2 ⟨⟨m2, hw2⟩, T, rfl, hT0, hT1, hT2⟩
    have HW2 := Hid.mk (show Below w.heap.size w w2 by rw [hw2]; exact HW1.out.trans ((below_drewN w1 m2).mono HW1.out.size))
    have HT2 := Hid.mk hT2
    clear hw2 hT2
    by_cases hTb : 1048576 < T
    · go_wp2
      go_ret
      exact ⟨rfl, HW2.out⟩
    have HSUM := Hid.mk (HT2.out (by omega))
    clear HT2
    go_wp2_with fail
    refine (dom_any aL aB al aF n cL nb cB ll cl nf cF L Lf A Af C Cf' F el w2 (HL.out.rws.below HW2.out) (HB.out.below HW2.out) (Hl.out.ents.below HW2.out) (HF.out.rws.below HW2.out) Hl.out.len (by omega) (by omega) (by omega) (by omega) HLL.out HLF.out).mono ?_
    rintro e w3 ⟨⟨m3, hw3⟩, r3, rfl, hr3⟩
    have HW3 := Hid.mk (show Below w.heap.size w w3 by rw [hw3]; exact HW2.out.trans ((below_drewN w2 m3).mono HW2.out.size))
    have HR3 := Hid.mk hr3
    clear hw3 hr3
    cases r3 with
    | false =>
      go_wp2
      go_ret
      exact ⟨rfl, HW3.out⟩
    | true =>
      obtain ⟨hnn, hinc, hincl, hfree⟩ := HR3.out (by first | trivial | rfl)
      obtain rfl : nb = n := hnn
      have HFREE := Hid.mk hfree
      have HINC : Hid (∀ h, h < nb → F h = true → Srt (L h)) := fun h hh hu => srt_of_inc _ (hinc h hh hu)
      have HINCL : Hid (Srt el) := srt_of_inc _ hincl
      clear hinc hincl hfree HR3 HR1
      go_wp2_with fail
      refine (tss_any aL nb cL L A C w3 (by omega) (HL.out.rws.below HW3.out) HL.out.isNil HLL.out).mono ?_
      rintro e u1 ⟨aL', cL', f, rfl, t1, b1⟩
      have T1 := Hid.mk t1
      have B1 := Hid.mk b1
      have V1 := Hid.mk (HW3.out.trans (b1.mono HW3.out.size))
      clear t1 b1
      go_wp2_with fail
      refine (clb_any aB nb cB F u1 (by omega) (HB.out.below V1.out) HBN.out).mono ?_
      rintro e u2 ⟨aB', cB', rfl, t2, b2⟩
      have T2 := Hid.mk t2
      have B2 := Hid.mk b2
      have V2 := Hid.mk (V1.out.trans (b2.mono V1.out.size))
      clear t2 b2
      go_wp2_with fail
      refine (tos_any al ll cl el u2 Hl.out.len (by omega) (Hl.out.ents.below V2.out) Hl.out.isNil).mono ?_
      rintro e u3 ⟨la, rfl, t3, _, s3, b3⟩
      obtain ⟨al', cl', hla, _⟩ := own_shape t3
      rw [Hl.out.len] at hla
      subst hla
      have T3 := Hid.mk t3
      have S3 := Hid.mk s3
      have B3 := Hid.mk b3
      have V3 := Hid.mk (V2.out.trans (b3.mono V2.out.size))
      clear t3 s3 b3
      go_wp2_with fail
      refine (tss_any aF nf cF Lf Af Cf' u3 (by omega) (HF.out.rws.below V3.out) HF.out.isNil HLF.out).mono ?_
      rintro e u4 ⟨aF', cF', g, rfl, t4, b4⟩
      have T4 := Hid.mk t4
      have B4 := Hid.mk b4
      have V4 := Hid.mk (V3.out.trans (b4.mono V3.out.size))
      clear t4 b4
      go_wp2_with fail
      refine (new_any aL' aB' al' aF' nb cL' nb cB' ll cl' nf cF' x u4).mono ?_
      rintro e u5 ⟨rfl, t5, b5⟩
      have T5 := Hid.mk t5
      have B5 := Hid.mk b5
      have V5 := Hid.mk (V4.out.trans (b5.mono V4.out.size))
      clear t5 b5
      go_wp2_with fail
      refine (tos_any a5 d5 c5 e5 u5 H5.out.len (by omega) (H5.out.ents.below V5.out) H5.out.isNil).mono ?_
      rintro e u6 ⟨vd, rfl, t6, _, s6, b6⟩
      have BG := Hid.mk (begin_of T1.out B1.out T2.out B2.out T3.out S3.out B3.out T4.out B4.out T5.out B5.out t6 s6 b6 HFREE.out (by omega))
      have V6 := Hid.mk (V5.out.trans (b6.mono V5.out.size))
      have hgm := V4.out.size
      clear t6 s6 b6
      go_wp2_with fail
      refine (first_any' _ aL' cL' aB' cB' nf (.slice aF' nf cF') (row nf g) u6 BG.out (row_length _ _) (by show nb ≤ 65536; omega) (Nat.le_trans HSUM.out (by omega)) (by omega) (by show el.length ≤ 1048576; rw [Hl.out.len]; omega) (by show e5.length ≤ 1048576; rw [H5.out.len]; omega)).mono ?_
      rintro e u7 ⟨v7, fr7, R7, rfl, F7⟩
      have G7 := Hid.mk F7
      have V7 := Hid.mk (V6.out.trans (F7.bel.mono (HW3.out.size)))
      clear F7 BG
      have VD : Hid (∀ m, Below w.heap.size w (u7.drewN m)) := fun m => V7.out.trans ((below_drewN u7 m).mono V7.out.size)
      obtain ⟨aR, cR, hfr7⟩ := own_slice G7.out.fro
      obtain ⟨res, hres⟩ : ∃ r, resOf F L nb el = r := ⟨_, rfl⟩
      have HRES := Hid.mk hres
      have o7 : u7.ownsRow 0 39 2 v7 (e5 ++ res).length (flat (e5 ++ res)) := by
        have h9 := G7.out.own
        rw [List.length_append, flat_append, ← hres]
        exact h9
      obtain ⟨a7, c7, hv7, ents7, hcap7, hnil7, _⟩ := own_shape o7
      have hlen7 : (e5 ++ res).length = d5 + res.length := by rw [List.length_append, H5.out.len]
      have hnr : res.length ≤ 1114112 := by
        rw [← hres]
        unfold resOf
        have h1 := fld_length F L nb
        have h2 := mrg_length (fld F L nb) el
        have h3 := HSUM.out
        have h4 := Hl.out.len
        split <;> omega
      obtain ⟨nr, hnre⟩ : ∃ nr, res.length = nr := ⟨_, rfl⟩
      rw [hlen7, hnre] at hv7 hcap7
      rw [hnre] at hnr
      subst hv7
      have HNR := Hid.mk hnre
      have HE7 := Hid.mk ents7
      have HNIL7 : Hid (a7 = none → d5 = 0 ∧ nr = 0 ∧ c7 = 0) := fun e => by
        subst e
        rcases ents7 with h0 | ⟨b, o, h0, _⟩
        · have h1 : (e5 ++ res).length = 0 := by rw [h0]; rfl
          rw [hlen7, hnre] at h1
          rcases hnil7 with ⟨_, h2⟩ | ⟨g, h2⟩
          · exact ⟨by omega, by omega, h2⟩
          · cases h2
        · cases h0
      have HOFF : Hid (∀ b, a7 = some b → ∃ g, b = ⟨g, 0, none⟩) := fun b e => by
        rcases hnil7 with ⟨h1, _⟩ | ⟨g, h1⟩
        · rw [h1] at e; cases e
        · rw [h1] at e; exact ⟨g, (Option.some.inj e).symm⟩
      have hR7 : R7.length = roomsOf F nf nb := G7.out.len
      have hRb : roomsOf F nf nb ≤ 300000 := by
        have h8 := frm_le F nf nb
        show frm F nf nb + (if ownF F nb = true then 1 else 0) ≤ 300000
        have h7 : (if ownF F nb = true then 1 else 0) ≤ 1 := by split <;> omega
        omega
      have HR7 := Hid.mk hR7
      rw [hR7] at hfr7
      subst hfr7
      generalize hrm : roomsOf F nf nb = rm at *
      have HRM := Hid.mk hrm
      clear hres o7 hlen7 hnre ents7 hnil7 hR7 hrm
      go_wp2
      go_loopw [15] (fun i wr => ∃ k m : Nat, k ≤ d5 ∧ i = .int .i64 k ∧ wr = u7.drewN m) (fun i _ => d5 - (intOf i).toNat)
      case atStart => exact ⟨0, 0, by omega, rfl, rfl⟩
      case round =>
        obtain ⟨k, m8, hk, rfl, rfl⟩ := hrel
        by_cases hlt : k < d5
        · have hlt' : (k : Int) < (d5 : Int) := by omega
          have hlt7 : (k : Int) < ((d5 + nr : Nat) : Int) := by omega
          have hlt8 : k < d5 + nr := by omega
          obtain ⟨b1, o1, rfl, q1⟩ := HE7.out.at (by rw [List.length_append, H5.out.len]; omega)
          obtain ⟨b2, o2, rfl, q2⟩ := (H5.out.ents.below V7.out).at (by rw [H5.out.len]; omega)
          obtain ⟨x1, y1⟩ := q1 k (by rw [List.length_append, H5.out.len]; omega)
          obtain ⟨x2, y2⟩ := q2 k (by rw [H5.out.len]; omega)
          rw [getD_left _ _ _ (by rw [H5.out.len]; omega)] at x1 y1
          obtain ⟨⟨p, c⟩, hpc⟩ : ∃ z, e5.getD k (0, 0) = z := ⟨_, rfl⟩
          rw [hpc] at x1 y1 x2 y2
          simp only at x1 y1 x2 y2
          clear hpc q1 q2
          have hd : decide (p ≠ p) = false := by simp
          go_wp2
          go_quiet (fail)
          go_wp2
          go_roundw
          case rel => exact ⟨k + 1, _, by omega, by go_num, rfl⟩
          case measure => simp [intOf]; omega
        · obtain rfl : d5 = k := by omega
          go_upto_region 18 with fail
          go_cut [122] (fun x wx => x = .bool false ∧ ∃ m, wx = u7.drewN m)
          case first =>
            cases a7 with
            | none =>
              obtain ⟨h0, h1, h2⟩ := HNIL7.out rfl
              subst h0 h1 h2
              go_wp2_with fail
              refine (emax_any none aL aB al 0 0 nb cL cB ll cl res el L A C F (u7.drewN m8) (Or.inl (List.eq_nil_of_length_eq_zero HNR.out)) HNR.out (HL.out.rws.below (VD.out m8)) (HB.out.below (VD.out m8)) (Hl.out.ents.below (VD.out m8)) Hl.out.len (by omega) (by omega) (by omega) HLL.out HINC.out HINCL.out HRES.out.symm HPOS.out HPOSL.out).mono ?_
              rintro e w9 ⟨rfl, m9, hw9⟩
              have HW9 := Hid.mk hw9
              clear hw9
              go_wp2
              go_meet
              exact ⟨rfl, m8 + m9, by rw [HW9.out, World.drewN_drewN]⟩
            | some ad7 =>
              obtain ⟨g7, rfl⟩ := HOFF.out _ rfl
              by_cases hc7 : c7 = d5
              · subst hc7
                obtain rfl : nr = 0 := by omega
                go_wp2_with fail
                refine (emax_any (some ⟨g7, 0, none⟩) aL aB al 0 0 nb cL cB ll cl res el L A C F (u7.drewN m8) (Or.inl (List.eq_nil_of_length_eq_zero HNR.out)) HNR.out (HL.out.rws.below (VD.out m8)) (HB.out.below (VD.out m8)) (Hl.out.ents.below (VD.out m8)) Hl.out.len (by omega) (by omega) (by omega) HLL.out HINC.out HINCL.out HRES.out.symm HPOS.out HPOSL.out).mono ?_
                rintro e w9 ⟨rfl, m9, hw9⟩
                have HW9 := Hid.mk hw9
                clear hw9
                go_wp2
                go_meet
                exact ⟨rfl, m8 + m9, by rw [HW9.out, World.drewN_drewN]⟩
              · go_wp2_with fail
                refine (emax_any (some ⟨g7, d5 * 2, none⟩) aL aB al nr (c7 - d5) nb cL cB ll cl res el L A C F (u7.drewN m8) (by have := ents_tail HE7.out; rw [H5.out.len] at this; exact this) HNR.out (HL.out.rws.below (VD.out m8)) (HB.out.below (VD.out m8)) (Hl.out.ents.below (VD.out m8)) Hl.out.len (by omega) (by omega) (by omega) HLL.out HINC.out HINCL.out HRES.out.symm HPOS.out HPOSL.out).mono ?_
                rintro e w9 ⟨rfl, m9, hw9⟩
                have HW9 := Hid.mk hw9
                clear hw9
                go_wp2
                go_meet
                exact ⟨rfl, m8 + m9, by rw [HW9.out, World.drewN_drewN]⟩
          case rest =>
            obtain ⟨rfl, m9, rfl⟩ := hcut
            have SM9 : Hid (∀ m, Sm (u7.drewN m) u4.heap.size (.slice aL' nb cL') (.slice aB' nb cB') nilS (.int .i64 0) (.slice aR rm cR)) := fun m => G7.out.sm.kept (bkp (below_drewN u7 m)) (fun h => h)
            have HRC := Hid.mk (rooms_cells G7.out.fro G7.out.ro)
            have POS : Hid (0 < nb → aL' = some ⟨w3.heap.size, 0, none⟩ ∧ cL' = nb ∧ aB' = some ⟨u1.heap.size, 0, none⟩ ∧ cB' = nb ∧ u7.rowIs w3.heap.size 34 nb (LVc f F nb) ∧ u7.rowIs u1.heap.size 4 nb (fun i => .bool false) ∧ (∀ i, i < nb → F i = false → u7.ownsRow 0 39 2 (f i) (L i).length (flat (L i))) ∧ u4.heap.size ≠ u1.heap.size) := G7.out.pos
            have TNIL : Hid (∀ h, h < nb → (f h = nilS ↔ A h = none)) := fun h hh => by
              rcases T1.out with ⟨_, e0, _⟩ | ⟨_, _, _, ht⟩
              · omega
              · exact ht.isNil h hh
            clear HE7 HNIL7 HOFF G7 T1 T2 T3 T4 T5 HSUM HFREE
            go_wp2_with fail
            refine (get_levels _ _ _ _ _ _ (u7.drewN m9) (SM9.out m9)).mono ?_
            rintro e w10 ⟨rfl, hw10⟩
            obtain rfl : w10 = u7.drewN m9 := hw10
            go_wp2_with fail
            refine (get_full _ _ _ _ _ _ (u7.drewN m9) (SM9.out m9)).mono ?_
            rintro e w10 ⟨rfl, hw10⟩
            obtain rfl : w10 = u7.drewN m9 := hw10
            go_wp2
            go_loopw [18] (fun i wr => ∃ h m : Nat, h ≤ nb ∧ i = .int .i64 h ∧ wr = u7.drewN m) (fun i _ => nb - (intOf i).toNat)
            case atStart => exact ⟨0, _, by omega, rfl, rfl⟩
            case round =>
              obtain ⟨h, m10, hh, rfl, rfl⟩ := hrel
              by_cases hlt : h < nb
              · have hlt' : (h : Int) < (nb : Int) := by omega
                obtain ⟨q1, q2, q3, q4, row5, row6, own7, q8⟩ := POS.out (by omega)
                clear q2 q4 q8
                have cL1 := row5.cell hlt
                have cF1 : u7.cell? ⟨u1.heap.size, h, none⟩ = some (.bool false) := row6.cell hlt
                subst q1 q3
                obtain ⟨bB, oB, hBe, hBc⟩ := (HB.out.below V7.out) (by omega)
                have cB1 := hBc h hlt
                subst hBe
                clear hBc row5 row6
                cases hfh : F h with
                | true =>
                  rw [hfh] at cB1
                  have e : LVc f F nb h = .slice none 0 0 := by simp [LVc, hlt, hfh]
                  rw [e] at cL1
                  clear e hfh own7
                  have hneq := fun w' : World => run_neq_slice_nil_any (P := Try.prog) w' 34 39 none 0 0 0 0 Try.underlying34
                  go_wp2
                  go_roundw
                  case rel => exact ⟨h + 1, _, by omega, by go_num, rfl⟩
                  case measure => simp [intOf]; omega
                | false =>
                  rw [hfh] at cB1
                  have e : LVc f F nb h = f h := by simp [LVc, hfh]
                  obtain ⟨ah, ch, hfe, hEh, _, hsh, _⟩ := own_shape (own7 h hlt hfh)
                  have tn := TNIL.out h hlt
                  rw [e, hfe] at cL1
                  rw [hfe] at tn
                  obtain ⟨bL, oL, hLe, hR⟩ := (HL.out.rws.below V7.out) (by omega)
                  obtain ⟨cV, eV, nV⟩ := hR h hlt
                  have hlh := HLL.out h hlt
                  subst hLe
                  obtain ⟨ai, hai⟩ : ∃ ai, A h = ai := ⟨_, rfl⟩
                  obtain ⟨ci, hci⟩ : ∃ ci, C h = ci := ⟨_, rfl⟩
                  obtain ⟨lh, hlhe⟩ : ∃ lh, (L h).length = lh := ⟨_, rfl⟩
                  rw [hai, hci, hlhe] at cV
                  rw [hlhe] at cL1 hlh tn
                  rw [hai] at tn eV
                  have hsame : ah.isNone = ai.isNone := by
                    cases ai with
                    | none =>
                      have h1 := tn.2 rfl
                      injection h1 with h1 h2 h3
                      rw [h1]
                    | some x =>
                      cases ah with
                      | none =>
                        exfalso
                        have h1 : L h = [] := by
                          rcases hEh with h1 | ⟨_, _, h1, _⟩
                          · exact h1
                          · cases h1
                        have h2 : lh = 0 := by rw [← hlhe, h1]; rfl
                        rcases hsh with ⟨_, h3⟩ | ⟨_, h3⟩
                        · subst h2 h3
                          cases tn.1 rfl
                        · cases h3
                      | some y => rfl
                  have HLH := Hid.mk hlhe
                  have HEH := Hid.mk hEh
                  have HEV := Hid.mk eV
                  obtain ⟨nn, hnn⟩ : ∃ nn, ai.isNone = nn := ⟨_, rfl⟩
                  have hq1 := fun w' : World => Lib.run_eql_slice_nil (P := Try.prog) w' 34 39 ah lh ch 0 0 Try.underlying34
                  have hq2 := fun w' : World => Lib.run_eql_slice_nil (P := Try.prog) w' 24 40 ai lh ci 0 0 Try.underlying24
                  rw [hsame, hnn] at hq1
                  rw [hnn] at hq2
                  clear e hfh own7 hfe hsh tn hR nV hai hci hlhe hsame hnn hEh eV
                  cases nn with
                  | true =>
                    go_wp2
                    go_quiet ((go_at_call 17; exact sam_quiet ah ai lh ch ci (L h) u7 _ _ HLH.out (by omega) HEH.out HEV.out))
                    go_wp2
                    go_roundw
                    case rel => exact ⟨h + 1, _, by omega, by go_num, rfl⟩
                    case measure => simp [intOf]; omega
                  | false =>
                    go_wp2
                    go_quiet ((go_at_call 17; exact sam_quiet ah ai lh ch ci (L h) u7 _ _ HLH.out (by omega) HEH.out HEV.out))
                    go_wp2
                    go_roundw
                    case rel => exact ⟨h + 1, _, by omega, by go_num, rfl⟩
                    case measure => simp [intOf]; omega
              · obtain rfl : nb = h := by omega
                go_wp2_with fail
                refine (get_last _ _ _ _ _ _ (u7.drewN m10) (SM9.out m10)).mono ?_
                rintro e w10 ⟨rfl, hw10⟩
                obtain rfl : w10 = u7.drewN m10 := hw10
                have hneq := run_neq_slice_nil_any (P := Try.prog) (u7.drewN m10) 34 39 none 0 0 0 0 Try.underlying34
                go_wp2_with fail
                refine (get_added _ _ _ _ _ _ (u7.drewN m10) (SM9.out m10)).mono ?_
                rintro e w10 ⟨rfl, hw10⟩
                obtain rfl : w10 = u7.drewN m10 := hw10
                go_wp2_with fail
                refine (get_free _ _ _ _ _ _ (u7.drewN m10) (SM9.out m10)).mono ?_
                rintro e w10 ⟨rfl, hw10⟩
                obtain rfl : w10 = u7.drewN m10 := hw10
                go_wp2
                go_loopw [20] (fun i wr => ∃ k : Nat, k ≤ rm ∧ i = .int .i64 k ∧ wr = u7.drewN m10) (fun i _ => rm - (intOf i).toNat)
                case atStart => exact ⟨0, by omega, rfl, rfl⟩
                case round =>
                  obtain ⟨k, hk, rfl, rfl⟩ := hrel
                  by_cases hlt : k < rm
                  · have hlt' : (k : Int) < (rm : Int) := by omega
                    obtain ⟨gR, haR, ra, rc, hcell⟩ := HRC.out k (by rw [HR7.out]; omega)
                    subst haR
                    go_wp2
                    go_roundw
                    case rel => exact ⟨k + 1, by omega, by go_num, by first | trivial | rfl⟩
                    case measure => simp [intOf]; omega
                  · obtain rfl : rm = k := by omega
                    go_wp2_with fail
                    refine (free_any nf nb cB aB F (u7.drewN m10) (by omega) (by omega) (HB.out.below (VD.out m10))).mono ?_
                    rintro e w10 ⟨rfl, hw10⟩
                    obtain rfl : w10 = u7.drewN m10 := hw10
                    rw [HRM.out]
                    go_wp2
                    go_ret
                    exact ⟨rfl, VD.out _⟩
end Go.Proofs.Qxb6606351a
