/-
  The walk of appendTo's loop.
-/
import Derived.Test.Qxb6606351aStep2
import Derived.Test.Qxb6606351aAmax
import Derived.Deep.RegionLaw
namespace Go.Proofs.Qxb6606351a
open Go.ChangeShapes Go.WideShapes Go.ChangeAt Go.RowKit
set_option linter.unusedVariables false
set_option linter.unusedSimpArgs false

theorem own_shape {w : World} {v : Value} {es : List E} (h : w.ownsRow 0 39 2 v es.length (flat es)) :
    ∃ a c, v = .slice a es.length c ∧ Ents w a es ∧ es.length ≤ c ∧ ((a = none ∧ c = 0) ∨ ∃ g, a = some ⟨g, 0, none⟩) ∧ ∀ b o, a = some ⟨b, o, none⟩ → v.ownBlock = some b := by
  have h' := h
  rcases h.2 with ⟨rfl, h0⟩ | ⟨g, cap, cur, rfl, hb, hg, h1, h2, h3, h4⟩
  · exact ⟨none, 0, by rw [h0], Or.inl (List.eq_nil_of_length_eq_zero h0), by omega, Or.inl ⟨rfl, rfl⟩, fun b o e => by cases e⟩
  · refine ⟨some ⟨g, 0, none⟩, cap, rfl, own_ents h', h1, Or.inr ⟨g, rfl⟩, fun b o e => ?_⟩
    have := Option.some.inj e
    injection this with e1 e2
    rw [← e1]
    rfl

theorem amax_own (v0 va vb : Value) (d : Nat) (xs : List Value) (ea eb : List E) (w : World) (hown : w.ownsRow 0 39 2 v0 d xs) (ha : w.ownsRow 0 39 2 va ea.length (flat ea)) (hb : w.ownsRow 0 39 2 vb eb.length (flat eb))
    (hda : ∀ k, va.ownBlock = some k → v0.ownBlock ≠ some k) (hdb : ∀ k, vb.ownBlock = some k → v0.ownBlock ≠ some k) (sd : d ≤ 10000000) (sa : ea.length ≤ 10000000) (sb : eb.length ≤ 10000000) :
    Calls Try.prog 30 #[v0, va, vb] w fun e w' => ∃ v', e = .returned v' ∧ w'.ownsRow 0 39 2 v' (d + (mrg ea eb).length) (xs ++ flat (mrg ea eb)) ∧ Onto w w' v0 v' := by
  obtain ⟨aa, ca, rfl, h1, h2, h3, h4⟩ := own_shape ha
  obtain ⟨bb, cb', rfl, g1, g2, g3, g4⟩ := own_shape hb
  exact amax_any v0 d xs aa bb ea.length eb.length ca cb' ea eb w rfl rfl hown h1 g1 h2 g2 h3 g3 (fun b o e e' => hda b (h4 b o e) e'.symm) (fun b o e e' => hdb b (g4 b o e) e'.symm) sd sa sb

section
variable {C : Cf} {w w' : World} {hr h : Nat} {vf : Value} {ef : List E} {fr : Value} {R X : List Value}
theorem Mem.drewN (M : Mem C w hr h vf ef fr R X) (n : Nat) : Mem C (w.drewN n) hr h vf ef fr R X :=
  M.keep (Z := fun _ => False) ((Kp.refl _ _).drewN n) (fun h => h) (fun h => h) (fun h => h) (fun _ _ _ h => h.elim)
theorem Mem.drew (M : Mem C w hr h vf ef fr R X) : Mem C w.drew hr h vf ef fr R X :=
  M.keep (Z := fun _ => False) (Kp.refl _ _).drew (fun h => h) (fun h => h) (fun h => h) (fun _ _ _ h => h.elim)
theorem Mem.vfX {r : Value} {k : Nat} (M : Mem C w hr h vf ef fr R (r :: X)) (hv : vf.ownBlock = some k) : r.ownBlock ≠ some k := by
  intro e
  have h1 := M.one k
  unfold Cf.tot at h1
  simp only [cbs] at h1
  rw [cb_one hv, cb_one e] at h1
  omega
theorem Mem.lvX {r : Value} {i k : Nat} (M : Mem C w hr h vf ef fr R (r :: X)) (hi : i < C.n) (hn : ¬ (i < h ∧ C.FU i = true)) (hv : (C.LV i).ownBlock = some k) : r.ownBlock ≠ some k := by
  intro e
  have h1 := M.one k
  have h2 := sumTo_ge C.n (fun i => cb k (LVc C.LV C.FU h i)) i hi
  have h3 : LVc C.LV C.FU h i = C.LV i := by unfold LVc; rw [if_neg hn]
  simp only [h3] at h2
  unfold Cf.tot at h1
  simp only [cbs] at h1
  rw [cb_one e] at h1
  rw [cb_one hv] at h2
  omega
theorem lv_cell {h : Nat} {al : Option Addr} {ll cl : Nat} (M : Mem C w h h vf ef fr R X) (hlt : h < C.n) (hLV : C.LV h = .slice al (C.EL h).length cl) (hll : (C.EL h).length = ll) : w.cell? ⟨C.gL, h, none⟩ = some (.slice al ll cl) := by
  have := M.lv.cell hlt
  rw [LVc_at, hLV, hll] at this
  exact this
theorem lv_own {h : Nat} {al : Option Addr} {ll cl : Nat} (M : Mem C w h h vf ef fr R X) (hlt : h < C.n) (hLV : C.LV h = .slice al (C.EL h).length cl) (hll : (C.EL h).length = ll) : w.ownsRow 0 39 2 (.slice al ll cl) (C.EL h).length (flat (C.EL h)) := by
  have := M.lvo h hlt (fun e => by omega)
  rw [hLV] at this
  rw [← hll]
  exact this
theorem sumTo_le (n : Nat) (f : Nat → Nat) (m : Nat) (h : m ≤ n) : sumTo m f ≤ sumTo n f := by
  induction n with
  | zero => obtain rfl : m = 0 := by omega
            exact Nat.le_refl _
  | succ n ih =>
    by_cases e : m = n + 1
    · subst e; exact Nat.le_refl _
    · have := ih (by omega)
      simp only [sumTo]
      omega
theorem room_len {gm : Nat} {lv fu la ad r fr1 : Value} {R1 : List Value} (D : RoomDone gm lv fu la ad fr R w w' r fr1 R1) : R1.length = R.length - 1 := by
  rcases D.1 with ⟨rfl, rfl, _⟩ | e
  · rfl
  · rw [e]; simp
theorem vf_own (M : Mem C w hr h vf ef fr R X) : w.drew.ownsRow 0 39 2 vf ef.length (flat ef) := M.vfo
theorem Mem.pushKp {fr' : Value} (M : Mem C w hr h vf ef fr R X) (O : Onto w w' fr fr') : Kp (fun k => fr.ownBlock = some k ∨ k = C.gm) w (w'.setCell ⟨C.gm, 4, none⟩ fr') :=
  ((onto_kp O).mono (fun k _ e => Or.inl e)).trans ((Kp.setCell (X := fun k => k = C.gm) (Kp.refl _ w') (p := ⟨C.gm, 4, none⟩) rfl fr').mono (fun k _ e => Or.inr e))
theorem Mem.pushKeep {fr' y : Value} {n : Nat} {xs : List Value} (M : Mem C w hr h vf ef fr R X) (O : Onto w w' fr fr') (hy : y ∈ X) (ho : w.ownsRow 0 39 2 y n xs) : (w'.setCell ⟨C.gm, 4, none⟩ fr').ownsRow 0 39 2 y n xs := by
  refine (M.pushKp O).own ho (fun k hv hz => ?_)
  have h1 := M.one k
  have h2 := cbs_ge (k := k) hy
  rw [Mem.tot_eq] at h1
  rw [cb_one hv] at h2
  rcases hz with hz | hz
  · rw [cb_one hz] at h1; omega
  · rw [if_pos hz] at h1; omega
theorem Mem.pushBelow {fr' : Value} {w0 : World} (M : Mem C w hr h vf ef fr R X) (O : Onto w w' fr fr') (hb : Below C.B w0 w) : Below C.B w0 (w'.setCell ⟨C.gm, 4, none⟩ fr') :=
  hb.trans (⟨(M.pushKp O).os, (M.pushKp O).tape, (M.pushKp O).output, (M.pushKp O).size, fun k hk => (M.pushKp O).block k (by have := M.big; omega) (fun hz => by
    have := M.lo k (by
      rcases hz with hz | hz
      · rw [cb_one hz]; omega
      · rw [if_pos hz]; omega)
    omega)⟩)
theorem own_drew {base : Nat} {e : TypeId} {size : Nat} {v : Value} {n : Nat} {xs : List Value} (h : w.ownsRow base e size v n xs) : w.drew.ownsRow base e size v n xs := h
theorem kp_below {B : Nat} {Z : Nat → Prop} (hk : Kp Z w w') (hB : B ≤ w.heap.size) (hz : ∀ k, Z k → B ≤ k) : Below B w w' :=
  ⟨hk.os, hk.tape, hk.output, hk.size, fun k hk' => hk.block k (by omega) (fun hZ => by have := hz k hZ; omega)⟩
end
theorem Try.info34 : (Try.prog.info? 34).map (fun i => (i.zero, i.size, i.bytes)) = some (some (.slice none 0 0), 1, 24) := by kernel_rfl

/-- What appendTo appends. -/
def atoRes (C : Cf) : List E := if fnd C.FU C.n = true then mrg (fld C.FU C.EL C.n) C.el else C.el

/-- What appendTo answers and leaves. -/
def AtoDone (C : Cf) (f : Nat) (w w' : World) (e : Ending) : Prop :=
  ∃ v' fr' R', e = .returned v' ∧ Mem C.noL w' C.n C.n nilS [] fr' R' [v'] ∧ w'.ownsRow 0 39 2 v' (C.d + (atoRes C).length) (C.xs ++ flat (atoRes C)) ∧ R'.length = frm C.FU f C.n + (if ownF C.FU C.n = true then 1 else 0) ∧ Below C.B w w'

set_option maxRecDepth 100000 in
set_option maxHeartbeats 8000000 in
theorem ato_loop (C : Cf) (f : Nat) (R0 : List Value) (fr0 : Value) (w : World) (hM : Mem C w 0 0 nilS [] fr0 R0 []) (hf : R0.length = f) (hn : C.n ≤ 65536) (hsum : sumTo C.n (fun i => (C.EL i).length) ≤ 1048576) (hf1 : f ≤ 65536) (hel : C.el.length ≤ 1048576) (hd : C.d ≤ 1048576) :
    Calls Try.prog 26 #[.pointer (some ⟨C.gm, 0, none⟩), C.vd] w fun e w' => AtoDone C f w w' e := by
  obtain ⟨i0, hi, hz0, hz1, hz2⟩ : ∃ i, Try.prog.info? 34 = some i ∧ i.zero = some (.slice none 0 0) ∧ i.size = 1 ∧ i.bytes = 24 := by
    obtain ⟨i, hi, hzz⟩ := Option.map_eq_some_iff.1 Try.info34
    simp only [Prod.mk.injEq] at hzz
    exact ⟨i, hi, hzz.1, hzz.2.1, hzz.2.2⟩
  have HI := Hid.mk hi
  have HZ0 := Hid.mk hz0
  have HZ1 := Hid.mk hz1
  have HZ2 := Hid.mk hz2
  clear hi hz0 hz1 hz2
  obtain ⟨i9, hi, hz0, hz1, hz2⟩ : ∃ i, Try.prog.info? 39 = some i ∧ i.zero = some (.agg #[.int .i64 0, .int .u64 0]) ∧ i.size = 2 ∧ i.bytes = 16 := by
    obtain ⟨i, hi, hzz⟩ := Option.map_eq_some_iff.1 Try.info39
    simp only [Prod.mk.injEq] at hzz
    exact ⟨i, hi, hzz.1, hzz.2.1, hzz.2.2⟩
  have HI9 := Hid.mk hi
  have HZ90 := Hid.mk hz0
  have HZ91 := Hid.mk hz1
  have HZ92 := Hid.mk hz2
  clear hi hz0 hz1 hz2
  have HM := Hid.mk hM
  have HF := Hid.mk hf
  have HSUM := Hid.mk hsum
  have c0 := hM.sm.c0
  clear hM hf hsum
  go_enter Try.func26, Try.ntmps26
  go_wp2
  go_loopw [5, 6, 7, 8, 9, 15] (fun vf fo ow hh mg ix wr => ∃ (h : Nat) (fr : Value) (R : List Value), h ≤ C.n ∧ fo = .bool (fnd C.FU h) ∧ ow = .bool (ownF C.FU h) ∧ ix = .int .i64 h ∧ Hid (Mem C wr h h vf (fld C.FU C.EL h) fr R []) ∧ Hid (R.length = frm C.FU f h) ∧ Hid (Below C.B w wr)) (fun _ _ _ _ _ ix _ => C.n - (intOf ix).toNat)
  case atStart => exact ⟨0, fr0, R0, Nat.zero_le _, rfl, rfl, rfl, HM, HF, Below.refl _ _⟩
  case round =>
    obtain ⟨h, fr, R, hh, rfl, rfl, rfl, hmem, hrl, hbe⟩ := hrel
    by_cases hlt : h < C.n
    · have hlt' : (h : Int) < (C.n : Int) := by omega
      have c1 := hmem.out.sm.c1
      have lvh := hmem.out.lv.cell hlt
      have fuh := hmem.out.fu.cell hlt
      rw [LVc_at] at lvh
      rw [FUc_at] at fuh
      clear c0
      cases hF : C.FU h with
      | false =>
        rw [hF] at fuh
        have HFU := Hid.mk hF
        clear hF
        go_wp2
        go_roundw
        case rel =>
          have hF := HFU.out
          refine ⟨h + 1, fr, R, by omega, by simp [fnd, hF], by simp [ownF, hF], by go_num, ?_, ?_, hbe⟩
          · have e : fld C.FU C.EL (h + 1) = fld C.FU C.EL h := by simp [fld, hF]
            show Mem _ _ _ _ _ _ _ _ _
            rw [e]
            exact hmem.out.skip hF
          · show R.length = frm C.FU f (h + 1)
            rw [hrl.out]
            simp [frm, hF]
        case measure => simp [intOf]; omega
      | true =>
        rw [hF] at fuh
        have HFU := Hid.mk hF
        clear hF
        go_upto_if 27 with fail
        go_cut [5, 6, 7, 9] (fun vf' fo' ow' mg' wx => ∃ (fr' : Value) (R' : List Value), fo' = .bool true ∧ ow' = .bool (ownF C.FU (h + 1)) ∧ Hid (Mem C wx h (h + 1) vf' (fld C.FU C.EL (h + 1)) fr' R' []) ∧ Hid (R'.length = frm C.FU f (h + 1)) ∧ Hid (Below C.B w wx))
        case first =>
          cases hfo : fnd C.FU h with
          | false =>
            have HFO := Hid.mk hfo
            clear hfo
            have c0 := hmem.out.sm.c0
            go_wp2
            go_meet
            have hF := HFU.out
            have hfo := HFO.out
            refine ⟨fr, R, rfl, by simp [ownF, hF, hfo], ?_, ?_, hbe⟩
            · have e : fld C.FU C.EL (h + 1) = C.EL h := by simp [fld, hF, hfo]
              show Mem _ _ _ _ _ _ _ _ _
              rw [e]
              exact hmem.out.first hlt hF
            · show R.length = frm C.FU f (h + 1)
              rw [hrl.out]
              simp [frm, hF, hfo]
          | true =>
            have HFO := Hid.mk hfo
            clear hfo
            have hRl : R.length ≤ 10000000 := by have := frm_le C.FU f h; rw [hrl.out]; omega
            have hs1 : sumTo h (fun i => (C.EL i).length) + (C.EL h).length ≤ 1048576 := by
              have h1 := sumTo_le C.n (fun i => (C.EL i).length) (h + 1) (by omega)
              have h2 := HSUM.out
              simp only [sumTo] at h1
              omega
            have hfl := fld_length C.FU C.EL h
            obtain ⟨af, cf, hvf, _, hcf, _, _⟩ := own_shape hmem.out.vfo
            subst hvf
            obtain ⟨al, cl, hLV, _, hcl, _, _⟩ := own_shape (hmem.out.lvo h hlt (fun e => by omega))
            have HLV := Hid.mk hLV
            rw [hLV] at lvh
            obtain ⟨lf, hlf⟩ : ∃ lf, (fld C.FU C.EL h).length = lf := ⟨_, rfl⟩
            have hmem' : Mem C wr h h (.slice af lf cf) (fld C.FU C.EL h) fr R [] := by rw [← hlf]; exact hmem.out
            have HMD := Hid.mk hmem'.drew
            clear hmem'
            have c0 : wr.drew.cell? ⟨C.gm, 0, none⟩ = some (.slice (some ⟨C.gL, 0, none⟩) C.n C.n) := HMD.out.sm.c0
            have lvh' : wr.drew.cell? ⟨C.gL, h, none⟩ = some (.slice al (C.EL h).length cl) := lvh
            clear hLV c1 fuh lvh
            obtain ⟨ll, hll⟩ : ∃ ll, (C.EL h).length = ll := ⟨_, rfl⟩
            rw [hll] at lvh' hcl hs1
            rw [hlf] at hcf hfl ⊢
            have HLF := Hid.mk hlf
            have HLL := Hid.mk hll
            clear hlf hll
            go_wp2
            go_region_held3 (fun w' => w'.cell? ⟨C.gm, 0, none⟩ = some (.slice (some ⟨C.gL, 0, none⟩) C.n C.n) ∧ w'.cell? ⟨C.gL, h, none⟩ = some (.slice al ll cl)) (first | go_keep | (exact ⟨j1, j2⟩) | (exact ⟨k1, k2⟩))
              ((first
                | (go_at_call 31; refine (room_any C.gm _ _ _ _ fr R _ HMD.out.sm HMD.out.fro hRl (fun k hk => (HMD.out.far hk (by omega)).1)).mono ?_; rintro e w1 ⟨r, fr1, R1, rfl, hd1⟩; have HD1 := Hid.mk hd1; have HM1 := Hid.mk (HMD.out.room hd1); have k1 := HM1.out.1.sm.c0; have k2 : w1.cell? ⟨C.gL, h, none⟩ = some (.slice al ll cl) := lv_cell HM1.out.1 hlt HLV.out HLL.out; clear hd1)
                | (go_at_call 30; refine (amax_own r (.slice af lf cf) (.slice al ll cl) 0 [] (fld C.FU C.EL h) (C.EL h) w1 HM1.out.2 HM1.out.1.vfo (lv_own HM1.out.1 hlt HLV.out HLL.out) (fun k hk => HM1.out.1.vfX hk) (fun k hk => HM1.out.1.lvX hlt (fun e => by omega) (HLV.out ▸ HLL.out ▸ hk)) (by omega) (by rw [HLF.out]; omega) (by rw [HLL.out]; omega)).mono ?_; rintro e w2 ⟨v', rfl, ho2, hon2⟩; have HO2 := Hid.mk ho2; have HON2 := Hid.mk hon2; have HM2 := Hid.mk (HM1.out.1.grow hon2 ho2); have j1 := HM2.out.sm.c0; have j2 : w2.cell? ⟨C.gL, h, none⟩ = some (.slice al ll cl) := lv_cell HM2.out hlt HLV.out HLL.out; clear ho2 hon2)))
            have HB1 : Hid (Below C.B w w1) := hbe.out.drew.trans (kp_below HD1.out.2.2.2.2 HMD.out.big (fun k e => HMD.out.lo k (by rw [if_pos e]; omega)))
            have HB2 : Hid (Below C.B w w2) := HB1.out.trans (kp_below (onto_kp HON2.out) HM1.out.1.big (fun k e => HM1.out.1.lo k (by simp only [cbs]; rw [cb_one e]; omega)))
            have HR1 : Hid (R1.length = R.length - 1) := room_len HD1.out
            have HOV : Hid (w2.ownsRow 0 39 2 v' (mrg (fld C.FU C.EL h) (C.EL h)).length (flat (mrg (fld C.FU C.EL h) (C.EL h)))) := by
              have := HO2.out
              rw [Nat.zero_add] at this
              exact this
            clear HD1 HON2 HO2 HM1 HB1 HMD hmem k1 k2 c0 lvh'
            obtain ⟨ob, hob⟩ : ∃ ob, ownF C.FU h = ob := ⟨_, rfl⟩
            rw [hob]
            have HOB := Hid.mk hob
            clear hob
            go_upto_if 48 with fail
            go_cut [] (fun wx => ∃ (fr2 : Value) (R2 : List Value), Hid (Mem C wx h h nilS [] fr2 R2 [v']) ∧ Hid (wx.ownsRow 0 39 2 v' (mrg (fld C.FU C.EL h) (C.EL h)).length (flat (mrg (fld C.FU C.EL h) (C.EL h)))) ∧ Hid (R2.length = R1.length + (if ob = true then 1 else 0)) ∧ Hid (Below C.B w wx))
            case first =>
              cases ob with
              | false =>
                go_wp2
                go_meet
                exact ⟨fr1, R1, HM2.out.dropF, HOV, by simp [Hid], HB2⟩
              | true =>
                have HMO := Hid.mk HM2.out.outF.drew
                have c4 : w2.drew.cell? ⟨C.gm, 4, none⟩ = some fr1 := HMO.out.sm.c4
                have z4 := HMO.out.sm.fz 4
                have hR1l : R1.length ≤ 10000000 := by rw [HR1.out]; omega
                go_wp2
                have c4a : ∀ o, (w2.drew.alloc o).cell? ⟨C.gm, 4, none⟩ = some fr1 := fun o => (World.cell?_of_block (Below.heap_alloc w2.drew o C.gm HMO.out.sm.lt)).trans c4
                have c4b : ∀ o, (w2.alloc o).cell? ⟨C.gm, 4, none⟩ = some fr1 := c4a
                go_region_law
                  ((refine step_append_lies _ (by rfl) _ _ 30 (by rfl) 0 34 i0 (.slice none 0 0) 1 24 Try.underlying30 HI.out HZ0.out HZ1.out HZ2.out rfl (by omega) fr1 R1.length R1 (by rfl) (HMO.out.fro.alloc _) ⟨w2.heap.size, 0, none⟩ 1 1 _ (by rfl) (by rfl) (World.news_of_block (heap_alloc_new w2.drew _)) (by intro u hu; simp at hu; subst hu; rfl) (by omega) (by unfold maxLen; omega) (by omega) (Nat.zero_le _) (w2.heap.size + 1) (by simp) ?_; intro g2 cp2 w3 hown3 hgrow3 hat3 hlt3; have HO3 := Hid.mk hown3; have HON3 := Hid.mk (show Onto w2.drew w3 fr1 (.slice (some ⟨g2, 0, none⟩) (R1.length + 1) cp2) from (Onto.refl _ _).stepPlain hgrow3 hat3); have k4 := (HMO.out.sm.kept (onto_kp HON3.out) (fun e => (HMO.out.far e (by omega)).1 rfl)).c4; have kz4 := (HMO.out.sm.kept (onto_kp HON3.out) (fun e => (HMO.out.far e (by omega)).1 rfl)).fz 4; clear hown3 hgrow3 hat3 hlt3))
                all_goals go_wp2
                all_goals go_meet
                all_goals exact ⟨_, _, HMO.out.push (trunc_own (vf_own HM2.out)) HON3.out HO3.out, HMO.out.pushKeep HON3.out (List.mem_cons_of_mem _ (List.mem_singleton.2 rfl)) (own_drew HOV.out), by simp [Hid], HMO.out.pushBelow HON3.out HB2.out.drew⟩
            case rest =>
              clear HM2 HOV HB2
              obtain ⟨fr2, R2, HM2, HOV, HR2, HB2⟩ := hcut
              have HMO := Hid.mk (HM2.out.outL hlt HFU.out).drew
              have c4 : wc.drew.cell? ⟨C.gm, 4, none⟩ = some fr2 := HMO.out.sm.c4
              have c0 : wc.drew.cell? ⟨C.gm, 0, none⟩ = some (.slice (some ⟨C.gL, 0, none⟩) C.n C.n) := HMO.out.sm.c0
              have lvh : wc.drew.cell? ⟨C.gL, h, none⟩ = some (.slice al ll cl) := lv_cell HM2.out.drew hlt HLV.out HLL.out
              have z4 := HMO.out.sm.fz 4
              have hR2l : R2.length ≤ 10000000 := by rw [HR2.out, HR1.out]; split <;> omega
              have c4a : ∀ o, (wc.drew.alloc o).cell? ⟨C.gm, 4, none⟩ = some fr2 := fun o => (World.cell?_of_block (Below.heap_alloc wc.drew o C.gm HMO.out.sm.lt)).trans c4
              have c4b : ∀ o, (wc.alloc o).cell? ⟨C.gm, 4, none⟩ = some fr2 := c4a
              have HTO : Hid (wc.drew.ownsRow 0 39 2 (.slice al 0 cl) 0 []) := trunc_own (lv_own HM2.out.drew hlt HLV.out HLL.out)
              have HMP : Hid (Mem C wc.drew h (h + 1) nilS [] fr2 R2 (.slice al 0 cl :: [v'])) := by
                have h9 := HMO.out
                rw [HLV.out] at h9
                exact h9
              go_wp2
              go_region_law
                ((refine step_append_lies _ (by rfl) _ _ 30 (by rfl) 0 34 i0 (.slice none 0 0) 1 24 Try.underlying30 HI.out HZ0.out HZ1.out HZ2.out rfl (by omega) fr2 R2.length R2 (by rfl) (HMO.out.fro.alloc _) ⟨wc.heap.size, 0, none⟩ 1 1 _ (by rfl) (by rfl) (World.news_of_block (heap_alloc_new wc.drew _)) (by intro u hu; simp at hu; subst hu; rfl) (by omega) (by unfold maxLen; omega) (by omega) (Nat.zero_le _) (wc.heap.size + 1) (by simp) ?_; intro g2 cp2 w3 hown3 hgrow3 hat3 hlt3; have HO3 := Hid.mk hown3; have HON3 := Hid.mk (show Onto wc.drew w3 fr2 (.slice (some ⟨g2, 0, none⟩) (R2.length + 1) cp2) from (Onto.refl _ _).stepPlain hgrow3 hat3); have k4 := (HMO.out.sm.kept (onto_kp HON3.out) (fun e => (HMO.out.far e (by omega)).1 rfl)).c4; have kz4 := (HMO.out.sm.kept (onto_kp HON3.out) (fun e => (HMO.out.far e (by omega)).1 rfl)).fz 4; clear hown3 hgrow3 hat3 hlt3))
              all_goals go_wp2
              all_goals go_meet
              all_goals have hF := HFU.out
              all_goals have hfo := HFO.out
              all_goals refine ⟨.slice (some ⟨g2, 0, none⟩) (R2.length + 1) cp2, R2 ++ [.slice al 0 cl], rfl, by simp [ownF, hF, hfo], ?_, ?_, HMP.out.pushBelow HON3.out HB2.out.drew⟩
              all_goals have e1 : fld C.FU C.EL (h + 1) = mrg (fld C.FU C.EL h) (C.EL h) := by simp [fld, hF, hfo]
              all_goals have e2 : frm C.FU f (h + 1) = (frm C.FU f h - 1) + (if ownF C.FU h = true then 1 else 0) + 1 := by simp [frm, hF, hfo]
              all_goals first
                | (show Mem _ _ _ _ _ _ _ _ _; rw [e1]; exact (HMP.out.push HTO.out HON3.out HO3.out).inF (HMP.out.pushKeep HON3.out (List.mem_cons_of_mem _ (List.mem_singleton.2 rfl)) (own_drew HOV.out)))
                | (show (R2 ++ [_]).length = frm C.FU f (h + 1); rw [e2, List.length_append, HR2.out, HR1.out, hrl.out, HOB.out]; rfl)
        case rest =>
          obtain ⟨fr', R', rfl, rfl, HM2, HR2, HB2⟩ := hcut
          clear hmem hrl hbe c1 lvh fuh
          have HMO := Hid.mk HM2.out.drew
          have c0 : wc.drew.cell? ⟨C.gm, 0, none⟩ = some (.slice (some ⟨C.gL, 0, none⟩) C.n C.n) := HMO.out.sm.c0
          have c1 : wc.drew.cell? ⟨C.gm, 1, none⟩ = some (.slice (some ⟨C.gB, 0, none⟩) C.n C.n) := HMO.out.sm.c1
          have lvh := HMO.out.lv.cell hlt
          have lvz := HMO.out.lv.frozen h
          have fuh := HMO.out.fu.cell hlt
          have fuz := HMO.out.fu.frozen h
          have HST := Hid.mk (HMO.out.strike hlt HFU.out)
          have hLB := HMO.out.gLB
          have hmL := HMO.out.gmL
          have hmB := HMO.out.gmB
          have sA : Sm (wc.setCell ⟨C.gL, h, none⟩ (.slice none 0 0)) C.gm (.slice (some ⟨C.gL, 0, none⟩) C.n C.n) (.slice (some ⟨C.gB, 0, none⟩) C.n C.n) C.la C.ad fr' := HM2.out.sm.kept (Kp.setCell (X := fun k => k = C.gL) (Kp.refl _ wc) (p := ⟨C.gL, h, none⟩) rfl _) hmL
          have sB : Sm ((wc.setCell ⟨C.gL, h, none⟩ (.slice none 0 0)).setCell ⟨C.gB, h, none⟩ (.bool false)) C.gm (.slice (some ⟨C.gL, 0, none⟩) C.n C.n) (.slice (some ⟨C.gB, 0, none⟩) C.n C.n) C.la C.ad fr' := sA.kept (Kp.setCell (X := fun k => k = C.gB) (Kp.refl _ _) (p := ⟨C.gB, h, none⟩) rfl _) hmB
          have fuh2 : wc.cell? ⟨C.gB, h, none⟩ = some (.bool (FUc C.FU h h)) := fuh
          have fuz2 : wc.frozen? ⟨C.gB, h, none⟩ = false := fuz
          have lvh2 : wc.cell? ⟨C.gL, h, none⟩ = some (LVc C.LV C.FU h h) := lvh
          have lvz2 : wc.frozen? ⟨C.gL, h, none⟩ = false := lvz
          go_wp2
          go_region_held3 (fun w' => w'.cell? ⟨C.gm, 0, none⟩ = some (.slice (some ⟨C.gL, 0, none⟩) C.n C.n) ∧ w'.cell? ⟨C.gm, 1, none⟩ = some (.slice (some ⟨C.gB, 0, none⟩) C.n C.n)) (first | (exact ⟨c0, c1⟩) | (exact ⟨sA.c0, sA.c1⟩) | (exact ⟨sB.c0, sB.c1⟩) | (show _ ∧ _; exact ⟨(show (wc.setCell ⟨C.gL, h, none⟩ (.slice none 0 0)).cell? ⟨C.gm, 0, none⟩ = _ from sA.c0), sA.c1⟩) | go_keep) (fail)
          go_wp2
          go_roundw
          case rel =>
            have hF := HFU.out
            refine ⟨h + 1, fr', R', by omega, by simp [fnd, hF], rfl, by go_num, (HM2.out.strike hlt hF).drew, HR2, ?_⟩
            exact ((HB2.out.setCell (p := ⟨C.gL, h, none⟩) (HM2.out.lo C.gL (by rw [if_pos (rfl : C.gL = C.gL)]; omega)) _).setCell (p := ⟨C.gB, h, none⟩) (HM2.out.lo C.gB (by rw [if_pos (rfl : C.gB = C.gB)]; omega)) _).drew
          case measure => simp [intOf]; omega
    · obtain rfl : h = C.n := by omega
      have c2 := hmem.out.sm.c2
      have HM0 := Hid.mk hmem.out.outD
      have hfl : (fld C.FU C.EL C.n).length ≤ 1048576 := Nat.le_trans (fld_length C.FU C.EL C.n) HSUM.out
      obtain ⟨fo, hfo⟩ : ∃ fo, fnd C.FU C.n = fo := ⟨_, rfl⟩
      obtain ⟨ob, hob⟩ : ∃ ob, ownF C.FU C.n = ob := ⟨_, rfl⟩
      obtain ⟨res, hres⟩ : ∃ res, atoRes C = res := ⟨_, rfl⟩
      have HRES : Hid (res = if fo = true then mrg (fld C.FU C.EL C.n) C.el else C.el) := by
        show _ = _
        rw [← hres]
        unfold atoRes
        rw [hfo]
      have HRS := Hid.mk hres
      clear hres
      rw [hfo, hob]
      have HFO := Hid.mk hfo
      have HOB := Hid.mk hob
      clear hfo hob
      go_upto_if 91 with fail
      go_cut [1] (fun v' wx => Hid (Mem C.noD wx C.n C.n u5 (fld C.FU C.EL C.n) fr R [v']) ∧ Hid (wx.ownsRow 0 39 2 v' (C.d + res.length) (C.xs ++ flat res)) ∧ Hid (Below C.B w wx))
      case first =>
        cases fo with
        | true =>
          go_wp2_with fail
          refine (amax_own C.vd u5 C.la C.d C.xs (fld C.FU C.EL C.n) C.el wr hmem.out.vdo hmem.out.vfo hmem.out.lao (fun k hk => HM0.out.vfX hk) (fun k hk => HM0.out.laX hk) (by omega) (by omega) (by omega)).mono ?_
          rintro e w2 ⟨v', rfl, ho2, hon2⟩
          have HO2 := Hid.mk ho2
          have HM2 := Hid.mk (HM0.out.grow hon2 ho2)
          have HB2 : Hid (Below C.B w w2) := hbe.out.trans (kp_below (onto_kp hon2) hmem.out.big (fun k e => HM0.out.lo k (by simp only [cbs]; rw [cb_one e]; omega)))
          clear ho2 hon2
          go_wp2
          go_meet
          refine ⟨HM2, ?_, HB2⟩
          show World.ownsRow _ _ _ _ _ _ _
          have er : res = mrg (fld C.FU C.EL C.n) C.el := by simpa using HRES.out
          rw [er]
          exact HO2.out
        | false =>
          obtain ⟨al, cl, hla, _, hcl, hform, _⟩ := own_shape hmem.out.lao
          rw [hla] at c2
          obtain ⟨le, hle⟩ : ∃ le, C.el.length = le := ⟨_, rfl⟩
          rw [hle] at c2 hcl hel
          have HLE := Hid.mk hle
          have HLA := Hid.mk hla
          clear hla hle
          by_cases hz : le = 0
          · subst hz
            go_wp2_with (at_builtin; refine wpList_append_none wr rfl _ _ 34 rfl 0 39 i9 2 Try.underlying34 HI9.out HZ91.out C.vd C.d C.xs rfl hmem.out.vdo _ _ rfl ?_)
            go_wp2
            go_meet
            refine ⟨HM0, ?_, hbe⟩
            show World.ownsRow _ _ _ _ _ _ _
            have e0 : C.el = [] := List.eq_nil_of_length_eq_zero HLE.out
            rw [HRES.out, if_neg (by simp), e0]
            show World.ownsRow _ _ _ _ _ C.d (C.xs ++ [])
            rw [List.append_nil]
            exact hmem.out.vdo
          · obtain ⟨g, hg⟩ : ∃ g, al = some ⟨g, 0, none⟩ := by
              rcases hform with ⟨_, h0⟩ | h0
              · omega
              · exact h0
            subst hg
            have HNEWS : Hid (∀ j u, (flat C.el)[j]? = some u → wr.cell? ((⟨g, 0, none⟩ : Addr).add j) = some u) := by
              have h9 := hmem.out.lao
              rw [HLA.out] at h9
              exact h9.cells (g := g) rfl
            have HLEN : Hid ((flat C.el).length = le * 2) := by show _ = _; rw [flat_length, HLE.out]
            have HONE := Hid.mk (flat_oneCell C.el)
            have HVD := Hid.mk hmem.out.vdo
            clear hform
            go_wp2_with (at_builtin; refine wpList_append_own_at wr rfl _ _ 34 rfl 0 39 i9 (.agg #[.int .i64 0, .int .u64 0]) 2 16 Try.underlying34 HI9.out HZ90.out HZ91.out HZ92.out rfl (by omega) C.vd C.d C.xs rfl HVD.out ⟨g, 0, none⟩ le cl (flat C.el) rfl HLEN.out HNEWS.out HONE.out (by unfold maxLen; omega) (by omega) (Nat.zero_le _) ?_)
            intro v1 w1 hown1 hgrow1 hnn1 hat1
            have HO1 := Hid.mk hown1
            have HON1 := Hid.mk ((Onto.refl wr C.vd).step hgrow1 (hat1.imp id fun e => ⟨_, e, Nat.le_refl _⟩))
            clear hown1 hgrow1 hnn1 hat1
            go_wp2
            go_meet
            refine ⟨HM0.out.grow HON1.out HO1.out, ?_, hbe.out.trans (kp_below (onto_kp HON1.out) hmem.out.big (fun k e => HM0.out.lo k (by simp only [cbs]; rw [cb_one e]; omega)))⟩
            show World.ownsRow _ _ _ _ _ _ _
            rw [HRES.out, if_neg (by simp), HLE.out]
            exact HO1.out
      case rest =>
        obtain ⟨HM2, HO2, HB2⟩ := hcut
        have hRl : R.length ≤ 10000000 := by have := frm_le C.FU f C.n; rw [hrl.out]; omega
        obtain ⟨af, cf, hvf, _, hcf, _, _⟩ := own_shape HM2.out.vfo
        clear HM0 hmem hbe c2
        subst hvf
        obtain ⟨lf, hlf⟩ : ∃ lf, (fld C.FU C.EL C.n).length = lf := ⟨_, rfl⟩
        have HMF : Hid (Mem C.noD wc C.n C.n (.slice af lf cf) (fld C.FU C.EL C.n) fr R [u1]) := by
          have h9 := HM2.out
          rw [hlf] at h9
          exact h9
        rw [hlf] at hcf hfl ⊢
        clear hlf HM2
        go_upto_if 105 with fail
        go_cut [] (fun wx => ∃ (fr2 : Value) (R2 : List Value), Hid (Mem C.noD wx C.n C.n nilS [] fr2 R2 [u1]) ∧ Hid (wx.ownsRow 0 39 2 u1 (C.d + res.length) (C.xs ++ flat res)) ∧ Hid (R2.length = R.length + (if ob = true then 1 else 0)) ∧ Hid (Below C.B w wx))
        case first =>
          cases ob with
          | false =>
            go_wp2
            go_meet
            exact ⟨fr, R, HMF.out.dropF, HO2, by simp [Hid], HB2⟩
          | true =>
            have HMO := Hid.mk HMF.out.outF.drew
            have c4 : wc.drew.cell? ⟨C.gm, 4, none⟩ = some fr := HMO.out.sm.c4
            have z4 : wc.drew.frozen? ⟨C.gm, 4, none⟩ = false := HMO.out.sm.fz 4
            have c4a : ∀ o, (wc.drew.alloc o).cell? ⟨C.gm, 4, none⟩ = some fr := fun o => (World.cell?_of_block (Below.heap_alloc wc.drew o C.gm HMO.out.sm.lt)).trans c4
            have c4b : ∀ o, (wc.alloc o).cell? ⟨C.gm, 4, none⟩ = some fr := c4a
            go_wp2
            go_region_law
              ((refine step_append_lies _ (by rfl) _ _ 30 (by rfl) 0 34 i0 (.slice none 0 0) 1 24 Try.underlying30 HI.out HZ0.out HZ1.out HZ2.out rfl (by omega) fr R.length R (by rfl) (HMO.out.fro.alloc _) ⟨wc.heap.size, 0, none⟩ 1 1 _ (by rfl) (by rfl) (World.news_of_block (heap_alloc_new wc.drew _)) (by intro u hu; simp at hu; subst hu; rfl) (by omega) (by unfold maxLen; omega) (by omega) (Nat.zero_le _) (wc.heap.size + 1) (by simp) ?_; intro g2 cp2 w3 hown3 hgrow3 hat3 hlt3; have HO3 := Hid.mk hown3; have HON3 := Hid.mk (show Onto wc.drew w3 fr (.slice (some ⟨g2, 0, none⟩) (R.length + 1) cp2) from (Onto.refl _ _).stepPlain hgrow3 hat3); have k4 : w3.cell? ⟨C.gm, 4, none⟩ = some fr := (HMO.out.sm.kept (onto_kp HON3.out) (fun e => (HMO.out.far e (by omega)).1 rfl)).c4; have kz4 : w3.frozen? ⟨C.gm, 4, none⟩ = false := (HMO.out.sm.kept (onto_kp HON3.out) (fun e => (HMO.out.far e (by omega)).1 rfl)).fz 4; clear hown3 hgrow3 hat3 hlt3))
            all_goals go_wp2
            all_goals go_meet
            all_goals exact ⟨_, _, HMO.out.push (trunc_own (vf_own HMF.out)) HON3.out HO3.out, HMO.out.pushKeep HON3.out (List.mem_cons_of_mem _ (List.mem_singleton.2 rfl)) (own_drew HO2.out), by simp [Hid], HMO.out.pushBelow HON3.out HB2.out.drew⟩
        case rest =>
          obtain ⟨fr2, R2, HM3, HO3, HR3, HB3⟩ := hcut
          have d2 : wc.cell? ⟨C.gm, 2, none⟩ = some C.la := HM3.out.sm.c2
          have d3 : wc.cell? ⟨C.gm, 3, none⟩ = some C.ad := HM3.out.sm.c3
          have y2 : wc.frozen? ⟨C.gm, 2, none⟩ = false := HM3.out.sm.fz 2
          have y3 : wc.frozen? ⟨C.gm, 3, none⟩ = false := HM3.out.sm.fz 3
          go_wp2
          go_ret
          refine ⟨u1, fr2, R2, rfl, HM3.out.stores, by rw [HRS.out]; exact HM3.out.storesOwn (List.mem_singleton.2 rfl) HO3.out, ?_, ?_⟩
          · rw [HR3.out, hrl.out, HOB.out]
          · have hlo := HM3.out.lo C.gm (by have e : (if C.gm = C.noD.gm then 1 else 0) = 1 := if_pos rfl; rw [e]; omega)
            exact (HB3.out.setCell (p := ⟨C.gm, 2, none⟩) hlo _).setCell (p := ⟨C.gm, 3, none⟩) hlo _
end Go.Proofs.Qxb6606351a
