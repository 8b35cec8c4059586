/-
  The walk of (*bufio.Reader).Peek.
-/
import Derived.Test.Qxb6606225aDoorSmall
import Derived.Deep.LoopGhost
namespace Go.Proofs.Qxb6606225aDoor
open Go.ChangeShapes Go.WideShapes Go.ChangeAt Go.RowKit
set_option linter.unusedVariables false
set_option linter.unusedSimpArgs false

/-- What a Peek of n bytes at place p answers: all n, or what is left and io.EOF. -/
def Peeked (K : Cfg) (n p : Nat) (w w' : World) (e : Ending) : Prop :=
  ∃ r wd i m o c err, e = .returned (.tuple #[.slice (some ⟨K.gf, o, none⟩) m c, err]) ∧ Br K w' r wd i p .nilIface ∧ Kp K.X w w' ∧ r + m ≤ wd ∧ (0 < m → o = r) ∧
    ((m = n ∧ p + n ≤ K.N ∧ err = .nilIface) ∨ (K.N < p + n ∧ m = K.N - p ∧ err = .iface 75 (.pointer (some K.ea))))

set_option maxRecDepth 100000 in
set_option maxHeartbeats 2000000 in
theorem peek_any (K : Cfg) (ok : K.Ok) (r wd i p n : Nat) (w : World) (hs : Br K w r wd i p .nilIface) (hn : n ≤ K.B) :
    Calls Tryd.prog 21 #[.pointer (some ⟨K.gR, 0, none⟩), .int .i64 n] w fun e w' => Peeked K n p w w' e := by
  have HS := Hid.mk hs
  have OK := Hid.mk ok
  have hB := ok.B2
  obtain ⟨x5, b5⟩ := hs.b5
  obtain ⟨x6, b6⟩ := hs.b6
  have f5 := hs.fz 5
  have f6 := hs.fz 6
  clear hs ok
  go_enter Tryd.func21, Tryd.ntmps21
  go_wp2
  have HS1 := Hid.mk ((HS.out.setLast OK.out 5 (Or.inl rfl) (-1)).setLast OK.out 6 (Or.inr rfl) (-1))
  have HK1 : Hid (Kp K.X w ((w.setCell ⟨K.gR, 5, none⟩ (.int .i64 (-1))).setCell ⟨K.gR, 6, none⟩ (.int .i64 (-1)))) := ((Kp.refl _ _).setCell (Or.inr (Or.inl rfl)) _).setCell (Or.inr (Or.inl rfl)) _
  generalize (w.setCell ⟨K.gR, 5, none⟩ (.int .i64 (-1))).setCell ⟨K.gR, 6, none⟩ (.int .i64 (-1)) = w1 at *
  clear b5 b6 f5 f6
  go_loopg [] (K.N - i + 1) (fun k wr => ∃ (r wd i : Nat) (err : Value), Hid (Br K wr r wd i p err) ∧ Hid (Kp K.X w wr) ∧ ((err = .nilIface ∧ K.N - i + 1 ≤ k) ∨ (err = .iface 75 (.pointer (some K.ea)) ∧ i = K.N ∧ wd - r < n)))
  case atStart => exact ⟨r, wd, i, .nilIface, HS1, HK1, Or.inl ⟨rfl, Nat.le_refl _⟩⟩
  case round =>
    clear HS1 HK1 HS
    obtain ⟨r, wd, i, err, hbr, hk, herr⟩ := hrel
    have h1 := hbr.out.rw
    have h2 := hbr.out.w4
    have h3 := hbr.out.pos
    have h4 := hbr.out.src.le
    have b0 := hbr.out.b0
    have b2 := hbr.out.b2
    have b3 := hbr.out.b3
    have b4 := hbr.out.b4
    have hwrap : IntKind.i64.wrap ((wd : Int) - (r : Int)) = (wd : Int) - (r : Int) := by rw [IntKind.wrap_i64]; omega
    by_cases hlt : wd - r < n
    · have g1 : (wd : Int) - (r : Int) < (n : Int) := by omega
      have g2 : (wd : Int) - (r : Int) < (K.B : Int) := by omega
      rcases herr with ⟨rfl, hkk⟩ | ⟨rfl, hi, _⟩
      · go_wp2
        go_quiet (fail)
        go_wp2_with fail
        refine (fill_any K OK.out r wd i p _ (hbr.out.drewN OK.out _) (by omega)).mono ?_
        rintro e w2 ⟨rfl, hk2, n2, err2, hn2, herr2, hbr2⟩
        have HK2 := Hid.mk (hk.out.trans hk2.of_drewN)
        have HB2 := Hid.mk hbr2
        have HN2 := Hid.mk hn2
        have HE2 := Hid.mk herr2
        clear hk2 hbr2 hn2 herr2 b0 b2 b3 b4 hbr hk
        go_wp2
        by_cases hi : i < K.N
        · go_roundg (K.N - (i + n2) + 1)
          case measure => have := HN2.out; omega
          case rel => exact ⟨0, wd - r + n2, i + n2, err2, HB2, HK2, Or.inl ⟨HE2.out.2 hi, Nat.le_refl _⟩⟩
        · go_roundg 0
          case measure => omega
          case rel =>
            refine ⟨0, wd - r + n2, i + n2, err2, HB2, HK2, Or.inr ?_⟩
            rcases HB2.out.er with h | h
            · exact absurd (HE2.out.1 h) hi
            · exact ⟨h.1, h.2, by have := HN2.out; omega⟩
      · have hd1 : decide ((wd : Int) - (r : Int) < (n : Int)) = true := by simp; omega
        go_wp2
        go_quiet (fail)
        go_wp2
        go_quiet (fail)
        obtain ⟨m, hm⟩ : ∃ m : Nat, (wd : Int) - (r : Int) = (m : Int) := ⟨wd - r, by omega⟩
        rw [hm]
        have hmn : (m : Int) < (n : Int) := by omega
        have hmw : r + m = wd := by omega
        go_wp2_with fail
        refine (readErr_any K OK.out r wd i p _ _ (hbr.out.drewN OK.out _)).mono ?_
        rintro e w2 ⟨rfl, hb2, hk2⟩
        have HB2 := Hid.mk hb2
        have HK2 := Hid.mk (hk.out.trans hk2.of_drewN)
        have c0 := hb2.b0
        have c2 := hb2.b2
        have hsl0 : (0 : Int) ≤ (r : Int) := by omega
        have hsl1 : (r : Int) ≤ (r : Int) + (m : Int) := by omega
        have hsl2 : (r : Int) + (m : Int) ≤ (K.B : Int) := by omega
        have hwrap2 : IntKind.i64.wrap ((r : Int) + (m : Int)) = (r : Int) + (m : Int) := by rw [IntKind.wrap_i64]; omega
        clear hb2 hk2 hm g1 g2 hwrap hd1 b0 b2 b3 b4
        go_wp2
        go_quiet (fail)
        go_wp2
        all_goals
          go_ret2
          exact ⟨r, wd, i, _, _, _, _, rfl, HB2.out.drewN OK.out _, HK2.out.drewN _, by omega, by omega, Or.inr ⟨by omega, by omega, rfl⟩⟩
    · obtain rfl : err = .nilIface := by
        rcases herr with h | h
        · exact h.1
        · exact absurd h.2.2 hlt
      have hpn : p + n ≤ K.N := by omega
      have g1 : decide ((wd : Int) - (r : Int) < (n : Int)) = false := by simp; omega
      clear herr
      go_wp2
      go_quiet (fail)
      go_wp2
      go_quiet (fail)
      obtain ⟨m, hm⟩ : ∃ m : Nat, (wd : Int) - (r : Int) = (m : Int) := ⟨wd - r, by omega⟩
      rw [hm]
      have hmn : (n : Int) ≤ (m : Int) := by omega
      have hsl0 : (0 : Int) ≤ (r : Int) := by omega
      have hsl1 : (r : Int) ≤ (r : Int) + (n : Int) := by omega
      have hsl2 : (r : Int) + (n : Int) ≤ (K.B : Int) := by omega
      have hrn : r + n ≤ wd := by omega
      have hwrap2 : IntKind.i64.wrap ((r : Int) + (n : Int)) = (r : Int) + (n : Int) := by rw [IntKind.wrap_i64]; omega
      clear hm g1 hwrap hlt
      go_wp2
      go_quiet (fail)
      go_wp2
      all_goals
        go_ret2
        exact ⟨r, wd, i, _, _, _, _, rfl, hbr.out.drewN OK.out _, hk.out.drewN _, by omega, by omega, Or.inl ⟨by omega, by omega, rfl⟩⟩
end Go.Proofs.Qxb6606225aDoor
