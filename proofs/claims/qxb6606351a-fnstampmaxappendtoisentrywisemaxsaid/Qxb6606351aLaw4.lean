/-
  The walk of the law 'a second appendTo adds nothing'.
-/
import Derived.Test.Qxb6606351aFst
import Derived.Test.Qxb6606351aSam
import Derived.Test.Qxb6606351aByt
namespace Go.Proofs.Qxb6606351a
open Go.ChangeShapes Go.WideShapes Go.ChangeAt Go.RowKit
set_option linter.unusedVariables false
set_option linter.unusedSimpArgs false

/-- A slice of entries, as it came in. -/
structure EntIn (w : World) (a : Option Addr) (n c : Nat) (es : List E) : Prop where
  len : es.length = n
  ents : Ents w a es
  isNil : a = none → n = 0 ∧ c = 0
/-- A slice of slices of entries, as it came in. -/
structure MatIn (w : World) (a : Option Addr) (n c : Nat) (L : Nat → List E) (A : Nat → Option Addr) (C : Nat → Nat) : Prop where
  rws : RwsIn w a n L A C
  isNil : a = none → n = 0 ∧ c = 0
  lens : ∀ i, i < n → (L i).length ≤ 9223372036854775807

theorem Ents.belowS {w w' : World} {a : Option Addr} {es : List E} (h : Ents w a es) {B : Nat} (hw : Below w.heap.size w w') : Ents w' a es := h.below hw
theorem RwsIn.below {w w' : World} {a : Option Addr} {n : Nat} {L : Nat → List E} {A : Nat → Option Addr} {C : Nat → Nat} (h : RwsIn w a n L A C) (hb : Below w.heap.size w w') : RwsIn w' a n L A C := by
  intro hn
  obtain ⟨b, o, e, hR⟩ := h hn
  refine ⟨b, o, e, fun i hi => ?_⟩
  obtain ⟨h1, h2, h3⟩ := hR i hi
  exact ⟨(hb.cell (p := ⟨b, o + i, none⟩) (World.block_lt_of_cell? w _ h1)).trans h1, h2.below hb, h3⟩
theorem BoolsIn.below {w w' : World} {a : Option Addr} {n : Nat} {F : Nat → Bool} (h : BoolsIn w a n F) (hb : Below w.heap.size w w') : BoolsIn w' a n F := by
  intro hn
  obtain ⟨b, o, e, hR⟩ := h hn
  exact ⟨b, o, e, fun i hi => (hb.cell (p := ⟨b, o + i, none⟩) (World.block_lt_of_cell? w _ (hR i hi))).trans (hR i hi)⟩
theorem below_drewN (w : World) (m : Nat) : Below w.heap.size w (w.drewN m) := ⟨rfl, rfl, rfl, Nat.le_refl _, fun _ _ => rfl⟩

theorem own_slice {w : World} {base : Nat} {e : TypeId} {size : Nat} {v : Value} {n : Nat} {xs : List Value} (h : w.ownsRow base e size v n xs) : ∃ a c, v = .slice a n c := by
  rcases h.2 with ⟨rfl, rfl⟩ | ⟨g, cap, cur, rfl, _⟩
  · exact ⟨_, _, rfl⟩
  · exact ⟨_, _, rfl⟩
theorem second_full {w : World} {n g gm s : Nat} {aB : Option Addr} (h : 0 < n → aB = some ⟨g, 0, none⟩ ∧ w.rowIs g 4 n (fun i => .bool false) ∧ gm ≠ g ∧ g < s) : n = 0 ∨ ∃ gB, aB = some ⟨gB, 0, none⟩ ∧ ∀ i, i < n → w.cell? ⟨gB, i, none⟩ = some (.bool false) := by
  by_cases e : n = 0
  · exact Or.inl e
  · obtain ⟨p1, p2, _⟩ := h (by omega)
    exact Or.inr ⟨g, p1, fun i hi => p2.cell hi⟩

/-- What the law leaves. -/
def LawOut (w w' : World) (e : Ending) : Prop := e = .returned (.bool true) ∧ Below w.heap.size w w'

set_option maxRecDepth 100000 in
set_option maxHeartbeats 4000000 in
theorem law4_any (aL aB al aF a5 a6 : Option Addr) (n cL nb cB ll cl nf cF d5 c5 d6 c6 : Nat) (x : Int) (L Lf : Nat → List E) (A Af : Nat → Option Addr) (C Cf' : Nat → Nat) (F : Nat → Bool) (el e5 e6 : List E) (w : World)
    (hL : MatIn w aL n cL L A C) (hB : BoolsIn w aB nb F) (hBn : aB = none → nb = 0 ∧ cB = 0) (hl : EntIn w al ll cl el) (hF : MatIn w aF nf cF Lf Af Cf') (h5 : EntIn w a5 d5 c5 e5) (h6 : EntIn w a6 d6 c6 e6)
    (hn : n ≤ 9223372036854775807) (hnb : nb ≤ 9223372036854775807) (hll : ll ≤ 9223372036854775807) (hnf : nf ≤ 9223372036854775807) (hd5 : d5 ≤ 9223372036854775807) (hd6 : d6 ≤ 9223372036854775807) :
    Calls Try.prog 4 #[.slice aL n cL, .slice aB nb cB, .slice al ll cl, .int .i64 x, .slice aF nf cF, .slice a5 d5 c5, .slice a6 d6 c6] w fun e w' => LawOut w w' e := by
  have HL := Hid.mk hL
  have HB := Hid.mk hB
  have HBN := Hid.mk hBn
  have Hl := Hid.mk hl
  have HF := Hid.mk hF
  have H5 := Hid.mk h5
  have H6 := Hid.mk h6
  clear hL hB hBn hl hF h5 h6
  go_enter Try.func4, Try.ntmps4
  go_wp2_with fail
  refine (zzb2_any aL aB al aF a5 a6 n cL nb cB ll cl nf cF d5 c5 d6 c6 (.int .i64 x) L Lf A Af C Cf' w HL.out.rws HF.out.rws hn hnb hll hnf hd5 hd6 HL.out.lens HF.out.lens).mono ?_
  rintro e w1 ⟨⟨m1, hw1⟩, r1, rfl, hr1⟩
  have HW1 := Hid.mk (show Below w.heap.size w w1 by rw [hw1]; exact below_drewN w m1)
  have HR1 := Hid.mk hr1
  clear hw1 hr1
  cases r1 with
  | false =>
    go_wp2
    go_ret
    exact ⟨rfl, HW1.out⟩
  | true =>
    by_cases g1 : 65536 < n
    · go_wp2
      go_ret
      exact ⟨rfl, HW1.out⟩
    by_cases g2 : 65536 < nb
    · go_wp2
      go_ret
      exact ⟨rfl, HW1.out⟩
    by_cases g3 : 65536 < ll
    · go_wp2
      go_ret
      exact ⟨rfl, HW1.out⟩
    by_cases g4 : 65536 < nf
    · go_wp2
      go_ret
      exact ⟨rfl, HW1.out⟩
    by_cases g5 : 65536 < d5
    · go_wp2
      go_ret
      exact ⟨rfl, HW1.out⟩
    by_cases g6 : 65536 < d6
    · go_wp2
      go_ret
      exact ⟨rfl, HW1.out⟩
    obtain ⟨lenL, lenF⟩ := HR1.out rfl
    have HLL := Hid.mk lenL
    have HLF := Hid.mk lenF
    clear lenL lenF
    go_wp2_with fail
    refine (byt_any aL aB al aF a5 a6 n cL nb cB ll cl nf cF d5 c5 d6 c6 L Lf A Af C Cf' w1 (HL.out.rws.below HW1.out) (HF.out.rws.below HW1.out) (by omega) (by omega) (by omega) (by omega) (by omega) (by omega) HLL.out HLF.out).mono ?_
    rintro e w2 ⟨⟨m2, hw2⟩, T, rfl, hT0, hT1, hT2⟩
    have HW2 := Hid.mk (show Below w.heap.size w w2 by rw [hw2]; exact HW1.out.trans ((below_drewN w1 m2).mono HW1.out.size))
    have HT2 := Hid.mk hT2
    clear hw2 hT2
    by_cases hTb : 1048576 < T
    · go_wp2
      go_ret
      exact ⟨rfl, HW2.out⟩
    have HSUM := Hid.mk (HT2.out (by omega))
    clear HT2
    go_wp2_with fail
    refine (dom_any aL aB al aF n cL nb cB ll cl nf cF L Lf A Af C Cf' F el w2 (HL.out.rws.below HW2.out) (HB.out.below HW2.out) (Hl.out.ents.below HW2.out) (HF.out.rws.below HW2.out) Hl.out.len (by omega) (by omega) (by omega) (by omega) HLL.out HLF.out).mono ?_
    rintro e w3 ⟨⟨m3, hw3⟩, r3, rfl, hr3⟩
    have HW3 := Hid.mk (show Below w.heap.size w w3 by rw [hw3]; exact HW2.out.trans ((below_drewN w2 m3).mono HW2.out.size))
    have HR3 := Hid.mk hr3
    clear hw3 hr3
    cases r3 with
    | false =>
      go_wp2
      go_ret
      exact ⟨rfl, HW3.out⟩
    | true =>
      obtain ⟨hnn, hinc, hincl, hfree⟩ := HR3.out (by first | trivial | rfl)
      obtain rfl : nb = n := hnn
      have HFREE := Hid.mk hfree
      clear hinc hincl hfree HR3 HR1
      go_wp2_with fail
      refine (tss_any aL nb cL L A C w3 (by omega) (HL.out.rws.below HW3.out) HL.out.isNil HLL.out).mono ?_
      rintro e u1 ⟨aL', cL', f, rfl, t1, b1⟩
      have T1 := Hid.mk t1
      have B1 := Hid.mk b1
      have V1 := Hid.mk (HW3.out.trans (b1.mono HW3.out.size))
      clear t1 b1
      go_wp2_with fail
      refine (clb_any aB nb cB F u1 (by omega) (HB.out.below V1.out) HBN.out).mono ?_
      rintro e u2 ⟨aB', cB', rfl, t2, b2⟩
      have T2 := Hid.mk t2
      have B2 := Hid.mk b2
      have V2 := Hid.mk (V1.out.trans (b2.mono V1.out.size))
      clear t2 b2
      go_wp2_with fail
      refine (tos_any al ll cl el u2 Hl.out.len (by omega) (Hl.out.ents.below V2.out) Hl.out.isNil).mono ?_
      rintro e u3 ⟨la, rfl, t3, _, s3, b3⟩
      obtain ⟨al', cl', hla, _⟩ := own_shape t3
      rw [Hl.out.len] at hla
      subst hla
      have T3 := Hid.mk t3
      have S3 := Hid.mk s3
      have B3 := Hid.mk b3
      have V3 := Hid.mk (V2.out.trans (b3.mono V2.out.size))
      clear t3 s3 b3
      go_wp2_with fail
      refine (tss_any aF nf cF Lf Af Cf' u3 (by omega) (HF.out.rws.below V3.out) HF.out.isNil HLF.out).mono ?_
      rintro e u4 ⟨aF', cF', g, rfl, t4, b4⟩
      have T4 := Hid.mk t4
      have B4 := Hid.mk b4
      have V4 := Hid.mk (V3.out.trans (b4.mono V3.out.size))
      clear t4 b4
      go_wp2_with fail
      refine (new_any aL' aB' al' aF' nb cL' nb cB' ll cl' nf cF' x u4).mono ?_
      rintro e u5 ⟨rfl, t5, b5⟩
      have T5 := Hid.mk t5
      have B5 := Hid.mk b5
      have V5 := Hid.mk (V4.out.trans (b5.mono V4.out.size))
      clear t5 b5
      go_wp2_with fail
      refine (tos_any a5 d5 c5 e5 u5 H5.out.len (by omega) (H5.out.ents.below V5.out) H5.out.isNil).mono ?_
      rintro e u6 ⟨vd, rfl, t6, _, s6, b6⟩
      have BG := Hid.mk (begin_of T1.out B1.out T2.out B2.out T3.out S3.out B3.out T4.out B4.out T5.out B5.out t6 s6 b6 HFREE.out (by omega))
      have V6 := Hid.mk (V5.out.trans (b6.mono V5.out.size))
      have hgm := V4.out.size
      clear t6 s6 b6
      go_wp2_with fail
      refine (first_any' _ aL' cL' aB' cB' nf (.slice aF' nf cF') (row nf g) u6 BG.out (row_length _ _) (by show nb ≤ 65536; omega) (Nat.le_trans HSUM.out (by omega)) (by omega) (by show el.length ≤ 1048576; rw [Hl.out.len]; omega) (by show e5.length ≤ 1048576; rw [H5.out.len]; omega)).mono ?_
      rintro e u7 ⟨v7, fr7, R7, rfl, F7⟩
      have G7 := Hid.mk F7
      have V7 := Hid.mk (V6.out.trans (F7.bel.mono (HW3.out.size)))
      clear F7 BG
      obtain ⟨aR, cR, hfr7⟩ := own_slice G7.out.fro
      have hR7 : R7.length ≤ 300000 := by
        have h9 := G7.out.len
        have h8 := frm_le F nf nb
        rw [h9]
        show frm F nf nb + (if ownF F nb = true then 1 else 0) ≤ 300000
        have h7 : (if ownF F nb = true then 1 else 0) ≤ 1 := by split <;> omega
        omega
      generalize R7.length = l7 at *
      subst hfr7
      go_wp2_with fail
      refine (get_free _ _ _ _ _ _ u7 G7.out.sm).mono ?_
      rintro e u7' ⟨rfl, hu7⟩
      obtain rfl : u7' = u7 := hu7
      go_wp2_with fail
      refine (tos_any a6 d6 c6 e6 u7' H6.out.len (by omega) (H6.out.ents.below V7.out) H6.out.isNil).mono ?_
      rintro e u8 ⟨vd2, rfl, t8, _, s8, b8⟩
      have T8 := Hid.mk t8
      have S8 := Hid.mk s8
      have B8 := Hid.mk b8
      have V8 := Hid.mk (V7.out.trans (b8.mono V7.out.size))
      have SM8 := Hid.mk (G7.out.sm.kept (bkp b8) (fun h => h))
      have P8 : Hid (0 < nb → aB' = some ⟨u1.heap.size, 0, none⟩ ∧ u8.rowIs u1.heap.size 4 nb (fun i => .bool false) ∧ u4.heap.size ≠ u1.heap.size ∧ u1.heap.size < u7'.heap.size) := fun hp => by
        obtain ⟨_, _, p3, _, _, p6, _, p8⟩ := G7.out.pos hp
        exact ⟨p3, (bkp b8).rowIs p6 (fun h => h), p8, rowIs_lt p6⟩
      clear t8 s8 b8
      go_wp2_with fail
      refine (idle' u4.heap.size nb cL' cB' aL' aB' nilS (.int .i64 0) (.slice aR l7 cR) vd2 e6.length (flat e6) [] u8 SM8.out (by omega) (second_full P8.out) (nil_own _ _ _) T8.out (fun k hk e => by have h1 := S8.out k hk; have h2 := G7.out.sm.lt; have h3 : k = u4.heap.size := e; have h4 : u4.heap.size < u7'.heap.size := h2; omega) (by simp) (by rw [H6.out.len]; omega)).mono ?_
      rintro e u9 ⟨v9, rfl, o9, sm9, k9, _⟩
      have o9' : u9.ownsRow 0 39 2 v9 e6.length (flat e6) := by
        have := o9
        simp only [flat, List.append_nil, List.length_nil, Nat.add_zero] at this
        exact this
      obtain ⟨a9, c9, hv9, ents9, _⟩ := own_shape o9'
      rw [H6.out.len] at hv9
      subst hv9
      have O9 := Hid.mk ents9
      have SM9 := Hid.mk sm9
      have V9 := Hid.mk (V8.out.trans (kp_below k9 V8.out.size (fun k hk => by
        rcases hk with hk | hk
        · exact Nat.le_trans V7.out.size (S8.out k hk)
        · have h3 : k = u4.heap.size := hk
          rw [h3]; exact V4.out.size)))
      have P9 : Hid (0 < nb → aB' = some ⟨u1.heap.size, 0, none⟩ ∧ u9.rowIs u1.heap.size 4 nb (fun i => .bool false)) := fun hp => by
        obtain ⟨p1, p2, p3, p4⟩ := P8.out hp
        refine ⟨p1, k9.rowIs p2 (fun h => ?_)⟩
        rcases h with h | h
        · have := S8.out _ h; omega
        · exact p3 h.symm
      clear o9 o9' ents9 sm9 k9 T8 S8 B8 SM8 P8 G7
      go_wp2_with fail
      refine (sam_any a9 a6 d6 c9 c6 e6 u9 H6.out.len (by omega) O9.out (H6.out.ents.below V9.out)).mono ?_
      rintro e u10 ⟨rfl, m10, hu10⟩
      have SM10 := Hid.mk (show Sm u10 u4.heap.size (.slice aL' nb cL') (.slice aB' nb cB') nilS (.int .i64 0) (.slice aR l7 cR) by rw [hu10]; exact SM9.out.kept (bkp (below_drewN u9 m10)) (fun h => h))
      have V10 := Hid.mk (show Below w.heap.size w u10 by rw [hu10]; exact V9.out.trans ((below_drewN u9 m10).mono V9.out.size))
      have P10 : Hid (0 < nb → aB' = some ⟨u1.heap.size, 0, none⟩ ∧ u10.rowIs u1.heap.size 4 nb (fun i => .bool false)) := fun hp => by
        obtain ⟨p1, p2⟩ := P9.out hp
        exact ⟨p1, by rw [hu10]; exact (bkp (below_drewN u9 m10)).rowIs p2 (fun h => h)⟩
      clear hu10 P9 SM9 V9 O9
      go_wp2_with fail
      refine (get_full _ _ _ _ _ _ u10 SM10.out).mono ?_
      rintro e u10' ⟨rfl, hu10⟩
      obtain rfl : u10' = u10 := hu10
      go_wp2
      go_loopw [19] (fun i wr => ∃ k : Nat, k ≤ nb ∧ i = .int .i64 k ∧ wr = u10') (fun i _ => nb - (intOf i).toNat)
      case atStart => exact ⟨0, by omega, rfl, rfl⟩
      case round =>
        obtain ⟨k, hk, rfl, hwr⟩ := hrel
        obtain rfl : u10' = wr := hwr.symm
        by_cases hlt : k < nb
        · obtain ⟨haB, hrow⟩ := P10.out (by omega)
          have hcell := hrow.cell hlt
          have hlt' : (k : Int) < (nb : Int) := by omega
          clear hrow
          subst haB
          go_wp2
          go_roundw
          case rel => exact ⟨k + 1, by omega, by go_num, by first | trivial | rfl⟩
          case measure => simp [intOf]; omega
        · obtain rfl : nb = k := by omega
          go_wp2_with fail
          refine (get_free _ _ _ _ _ _ u10' SM10.out).mono ?_
          rintro e u11 ⟨rfl, hu11⟩
          obtain rfl : u11 = u10' := hu11
          go_wp2_with fail
          refine (get_last _ _ _ _ _ _ u11 SM10.out).mono ?_
          rintro e u12 ⟨rfl, hu12⟩
          obtain rfl : u12 = u11 := hu12
          have hne := Lib.run_eql_slice_nil (P := Try.prog) u12 34 39 none 0 0 0 0 Try.underlying34
          go_wp2_with fail
          refine (get_added _ _ _ _ _ _ u12 SM10.out).mono ?_
          rintro e u13 ⟨rfl, hu13⟩
          obtain rfl : u13 = u12 := hu13
          go_wp2
          go_ret
          exact ⟨rfl, V10.out⟩
end Go.Proofs.Qxb6606351a
