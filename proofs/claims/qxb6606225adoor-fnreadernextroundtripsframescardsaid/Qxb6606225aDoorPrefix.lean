/-
  The walk of readPrefix.
-/
import Derived.Test.Qxb6606225aDoorPeek
import Derived.LaidEql
namespace Go.Proofs.Qxb6606225aDoor
open Go.ChangeShapes Go.WideShapes Go.ChangeAt Go.RowKit
set_option linter.unusedVariables false
set_option linter.unusedSimpArgs false

theorem Tryd.comp75 : (Tryd.prog.info? 75).map (·.comparable) = some true := by kernel_rfl
theorem Tryd.size93 : (Tryd.prog.info? 93).map (·.size) = some 1 := by kernel_rfl

theorem eql_same (a : Addr) (w : World) : (binOp .eql 32 (.iface 75 (.pointer (some a))) (.iface 75 (.pointer (some a)))).run Tryd.prog w = .ok (.bool true) w := by
  obtain ⟨i, hi, hc⟩ := Option.map_eq_some_iff.1 Tryd.comp75
  obtain ⟨j, hj, _⟩ := Option.map_eq_some_iff.1 Tryd.size93
  exact run_eql_iface_ptr_same w a Tryd.underlying32 Tryd.underlying75 hi hc hj
theorem eql_other (a b : Addr) (w : World) (hne : a ≠ b) (ha : ∃ c t, w.heap[a.block]? = some (.cells c t (0, 0))) (hb : ∃ c t, w.heap[b.block]? = some (.cells c t (0, 0))) :
    (binOp .eql 32 (.iface 75 (.pointer (some a))) (.iface 75 (.pointer (some b)))).run Tryd.prog w = .ok (.bool false) w := by
  obtain ⟨i, hi, hc⟩ := Option.map_eq_some_iff.1 Tryd.comp75
  obtain ⟨j, hj, hs⟩ := Option.map_eq_some_iff.1 Tryd.size93
  obtain ⟨ca, ta, ha⟩ := ha
  obtain ⟨cb, tb, hb⟩ := hb
  exact run_eql_iface_ptr_other w Tryd.underlying32 Tryd.underlying75 hi hc hj (by rw [hs]; omega) hne ha hb
theorem eql_nil (a : Addr) (w : World) : (binOp .eql 32 .nilIface (.iface 75 (.pointer (some a)))).run Tryd.prog w = .ok (.bool false) w :=
  run_eql_iface_nil_left w 75 _ Tryd.underlying32

theorem Buf.cell {K : Cfg} {w : World} {r wd p : Nat} (h : Buf K w r wd p) (j : Nat) (h1 : r ≤ j) (h2 : j < wd) : w.cell? ⟨K.gf, j, none⟩ = some (.int .u8 (K.S.getD (p + (j - r)) 0)) := by
  obtain ⟨cur, hg, _, hc⟩ := h.ex
  simp [World.cell?, hg, hc j h1 h2]

theorem Kp.toX {K : Cfg} {w w' : World} (h : Kp (fun k => k = K.gR) w w') : Kp K.X w w' := h.mono (fun k _ e => Or.inr (Or.inl e))
theorem Kp.ofFalse {X : Nat → Prop} {w w' : World} (h : Kp (fun _ => False) w w') : Kp X w w' := h.mono (fun k _ e => e.elim)

/-- Behind a read into an empty buffer, the error stored first. -/
theorem Br.filled4 {K : Cfg} {w1 w2 : World} {i p n : Nat} (h : Br K w1 0 0 i p .nilIface) (ok : K.Ok) (cur : List Value) (hcl : cur.length = K.B)
    (hk : Kp (fun k => k = K.gb ∨ k = K.gf) w1 w2) (hs : Src K w2 (i + n)) (hg2 : w2.heap[K.gf]? = some (.cells (splice cur 0 (K.cut i n)).toArray 5 (0, 0))) (hn : i + n ≤ K.N) (hq : n ≤ K.B) :
    Br K ((w2.setCell ⟨K.gR, 4, none⟩ .nilIface).setCell ⟨K.gR, 3, none⟩ (.int .i64 n)) 0 n (i + n) p .nilIface := by
  have nR : ¬ (K.gR = K.gb ∨ K.gR = K.gf) := by have := ok.bR; have := ok.Rf; omega
  have hkR := (Br.kpR (K := K) (w := w2) 4 .nilIface).trans (Br.kpR (K := K) 3 (.int .i64 n))
  obtain ⟨x5, h5⟩ := h.b5
  obtain ⟨x6, h6⟩ := h.b6
  have hlen := K.length_cut ok i n hn
  have hpos := h.pos
  have f := fun j => (hk.frozen (a := ⟨K.gR, j, none⟩) h.lt nR).trans (h.fz j)
  refine ⟨hs.kept ok hkR ok.R01.1 ok.bR ok.srcR, by simp [go_sem, hk.cell nR h.b0], by simp [go_sem, hk.cell nR h.b1], by simp [go_sem, hk.cell nR h.b2], by simp [go_sem, hk.cell nR h.b3], by simp [go_sem, hk.cell nR h.b4], ⟨x5, by simp [go_sem, hk.cell nR h5]⟩, ⟨x6, by simp [go_sem, hk.cell nR h6]⟩,
    fun k => by simpa [go_sem] using f k, ⟨splice cur 0 (K.cut i n), ?_, ?_, fun j h1 h2 => ?_⟩, Nat.zero_le _, hq, by omega, Or.inl rfl, hkR.cell ok.R01.2 (hk.cell (by show ¬ (1 = K.gb ∨ 1 = K.gf); have := ok.b0; have := ok.f0; omega) h.unx)⟩
  · rw [Below.heap_setCell _ _ _ _ (Ne.symm ok.Rf), Below.heap_setCell _ _ _ _ (Ne.symm ok.Rf)]
    exact hg2
  · rw [length_splice _ _ _ (by rw [hlen]; omega), hcl]
  · simp only [splice, List.take_zero, List.nil_append]
    rw [List.getElem?_append_left (by rw [hlen]; omega), K.cut_get ok i n j hn (by omega), show i + j = p + (j - 0) from by omega]

/-- What readPrefix answers at place p. -/
def Prefixed (K : Cfg) (p : Nat) (w w' : World) (e : Ending) : Prop :=
  Kp K.X w w' ∧ ((p + 4 ≤ K.N ∧ e = .returned (.tuple #[.int .u64 (K.le4 p), .nilIface]) ∧ ∃ r wd i, Br K w' r wd i (p + 4) .nilIface) ∨
    (K.N < p + 4 ∧ ∃ a, e = .returned (.tuple #[.int .u64 0, .iface 75 (.pointer (some a))])))

theorem Cfg.le4_bound (K : Cfg) (ok : K.Ok) (p : Nat) : 0 ≤ K.le4 p ∧ K.le4 p ≤ 4294967295 := by
  have h0 := ok.byte p
  have h1 := ok.byte (p + 1)
  have h2 := ok.byte (p + 2)
  have h3 := ok.byte (p + 3)
  unfold Cfg.le4
  omega

set_option maxRecDepth 100000 in
set_option maxHeartbeats 2000000 in
theorem prefix_any (K : Cfg) (ok : K.Ok) (r wd i p : Nat) (w : World) (hs : Br K w r wd i p .nilIface) :
    Calls Tryd.prog 19 #[.pointer (some ⟨K.gR, 0, none⟩)] w fun e w' => Prefixed K p w w' e := by
  have OK := Hid.mk ok
  have HS := Hid.mk hs
  have hB := ok.B1
  clear hs ok
  go_enter Tryd.func19, Tryd.ntmps19
  go_wp2_with fail
  refine (peek_any K OK.out r wd i p 4 w HS.out (by omega)).mono ?_
  rintro e w1 ⟨r1, wd1, i1, m, o, c, err, rfl, hb1, hk1, hrm, ho, hcase⟩
  have HB1 := Hid.mk hb1
  have HK1 := Hid.mk hk1
  have hE := hb1.src.eof
  have hU := hb1.unx
  have hw4 := hb1.w4
  have hB2 := OK.out.B2
  clear hb1 hk1
  rcases hcase with ⟨rfl, hp4, rfl⟩ | ⟨hp4, hm, rfl⟩
  · have hq := eql_nil K.ea
    obtain rfl : o = r1 := ho (by omega)
    go_wp2_with fail
    refine (discard_any K OK.out o wd1 i1 p 4 .nilIface w1 HB1.out hrm).mono ?_
    rintro e w2 ⟨⟨v, rfl⟩, hb2, hk2⟩
    have HB2 := Hid.mk hb2
    have HK2 := Hid.mk hk2
    have nf : ¬ (K.gf = K.gR) := Ne.symm OK.out.Rf
    have k0 := hk2.cell (a := ⟨K.gf, o, none⟩) nf (HB1.out.buf.cell o (by omega) (by omega))
    have k1 := hk2.cell (a := ⟨K.gf, o + 1, none⟩) nf (HB1.out.buf.cell (o + 1) (by omega) (by omega))
    have k2 := hk2.cell (a := ⟨K.gf, o + 2, none⟩) nf (HB1.out.buf.cell (o + 2) (by omega) (by omega))
    have k3 := hk2.cell (a := ⟨K.gf, o + 3, none⟩) nf (HB1.out.buf.cell (o + 3) (by omega) (by omega))
    rw [show p + (o - o) = p from by omega] at k0
    rw [show p + (o + 1 - o) = p + 1 from by omega] at k1
    rw [show p + (o + 2 - o) = p + 2 from by omega] at k2
    rw [show p + (o + 3 - o) = p + 3 from by omega] at k3
    have U := Hid.mk (uint32_any K.gf o 4 c (K.S.getD p 0) (K.S.getD (p + 1) 0) (K.S.getD (p + 2) 0) (K.S.getD (p + 3) 0) w2 (by omega) (OK.out.byte _) (OK.out.byte _) (OK.out.byte _) (OK.out.byte _) k0 k1 k2 k3)
    clear hb2 hk2 k0 k1 k2 k3 hE hU
    go_wp2_with fail
    refine U.out.mono ?_
    rintro e w3 ⟨rfl, hk3⟩
    have HK3 := Hid.mk (HK1.out.trans (HK2.out.toX.trans hk3.ofFalse))
    have HB3 := Hid.mk (HB2.out.kept OK.out hk3 (fun h => h) (fun h => h) (fun h => h) (fun h => h) (fun h => h) (fun _ _ _ h => h))
    have hx : 0 ≤ K.le4 p ∧ K.le4 p ≤ 4294967295 := K.le4_bound OK.out p
    have HX : Hid (K.S.getD p 0 + K.S.getD (p + 1) 0 * 256 + K.S.getD (p + 2) 0 * 65536 + K.S.getD (p + 3) 0 * 16777216 = K.le4 p) := rfl
    rw [HX.out]
    obtain ⟨hx0, hx1⟩ := hx
    clear hk3 U
    go_wp2
    go_ret2
    exact ⟨HK3.out, Or.inl ⟨hp4, rfl, _, _, _, HB3.out⟩⟩
  · have hq := eql_same K.ea
    clear hm ho hrm
    by_cases hm0 : m = 0
    · subst hm0
      go_wp2
      go_ret2
      exact ⟨HK1.out, Or.inr ⟨hp4, _, rfl⟩⟩
    · have hm1 : (0 : Int) < (m : Int) := by omega
      go_wp2
      go_ret2
      exact ⟨HK1.out, Or.inr ⟨hp4, _, rfl⟩⟩
end Go.Proofs.Qxb6606225aDoor
