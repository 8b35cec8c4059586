/-
  The walk of (*bufio.Reader).fill.
-/
import Derived.Test.Qxb6606225aDoorRead
import Derived.Deep.DeepCutAuto
namespace Go.Proofs.Qxb6606225aDoor
open Go.ChangeShapes Go.WideShapes Go.ChangeAt Go.RowKit
set_option linter.unusedVariables false
set_option linter.unusedSimpArgs false

set_option maxRecDepth 100000 in
set_option maxHeartbeats 1000000 in
theorem fill_any (K : Cfg) (ok : K.Ok) (r wd i p : Nat) (w : World) (hs : Br K w r wd i p .nilIface) (hroom : wd - r < K.B) :
    Calls Tryd.prog 26 #[.pointer (some ⟨K.gR, 0, none⟩)] w fun e w' => e = .returned (.tuple #[]) ∧ Kp K.X w w' ∧
      ∃ n err, n = min (K.N - i) (K.B - (wd - r)) ∧ (err = .nilIface ↔ i < K.N) ∧ Br K w' 0 (wd - r + n) (i + n) p err := by
  have HS := Hid.mk hs
  have OK := Hid.mk ok
  have hrw := hs.rw
  have hB1 := ok.B1
  have hB2 := ok.B2
  have hw4 := hs.w4
  have b0 := hs.b0
  have b1 := hs.b1
  have b2 := hs.b2
  have b3 := hs.b3
  have b4 := hs.b4
  clear hs
  go_enter Tryd.func26, Tryd.ntmps26
  go_upto_if 9 with fail
  go_cut [] (fun wx => Kp K.X w wx ∧ Br K wx 0 (wd - r) i p .nilIface)
  case first =>
    by_cases hr : r = 0
    · subst hr
      go_wp2
      go_meet
      exact ⟨Kp.refl _ _, HS.out⟩
    · obtain ⟨cur, hg, hcl, hcur⟩ := HS.out.buf.ex
      have HG := Hid.mk hg
      have HC := Hid.mk hcur
      have HCL := Hid.mk hcl
      obtain ⟨cs, hcs⟩ : ∃ cs, cs = (cur.drop r).take (wd - r) := ⟨_, rfl⟩
      have HCS := Hid.mk hcs
      have hlen : cs.length = wd - r := by rw [hcs]; exact cur_drop cur r (wd - r) (by omega)
      have HLEN := Hid.mk hlen
      have K1 : Hid (cs.length = Nat.min (wd - r) K.B) := by show _ = _; rw [hlen]; exact (Nat.min_eq_left (by omega)).symm
      have K2 : Hid (∀ j v, cs[j]? = some v → w.cell? ((⟨K.gf, r, none⟩ : Addr).add j) = some v) := by
        intro j v hj
        have hlt := (List.getElem?_eq_some_iff.1 hj).1
        rw [hlen] at hlt
        rw [hcs, List.getElem?_take_of_lt hlt, List.getElem?_drop] at hj
        rw [Addr.add_lit]
        simp [World.cell?, hg, hj]
      have K3 : Hid (0 + cs.length ≤ cur.length) := by show _ ≤ _; omega
      have K4 : Hid (∀ v ∈ cs, v.oneCell' = true) := by
        intro v hv
        obtain ⟨j, hlt, hj⟩ := List.getElem_of_mem hv
        have hj' : cs[j]? = some v := by rw [List.getElem?_eq_getElem hlt, hj]
        rw [hcs, List.getElem?_take_of_lt (by omega), List.getElem?_drop, hcur _ (by omega) (by omega)] at hj'
        rw [← Option.some.inj hj']
        rfl
      have hp : 0 < r := by omega
      have hfR : K.gf ≠ K.gR := Ne.symm ok.Rf
      have hRf : K.gR ≠ K.gf := ok.Rf
      have hsl0 : (0 : Int) ≤ (r : Int) := by omega
      have hsl1 : (r : Int) ≤ (wd : Int) := by omega
      have hsl2 : (wd : Int) ≤ (K.B : Int) := by omega
      clear hg hcur hcl hcs hlen
      by_cases hr4 : r = K.B
      · obtain rfl : K.B = wd := by omega
        obtain rfl : K.B = r := hr4.symm
        have K1 : Hid (cs.length = Nat.min 0 K.B) := by show _ = _; rw [K1.out]; simp
        have hlen0 : Hid (¬ 0 < cs.length) := by show ¬ _; rw [K1.out]; simp
        go_wp2
        go_region_held3 (fun w' => w'.cell? ⟨K.gR, 0, none⟩ = some (.slice (some ⟨K.gf, 0, none⟩) K.B K.B) ∧ w'.cell? ⟨K.gR, 2, none⟩ = some (.int .i64 K.B) ∧ w'.cell? ⟨K.gR, 3, none⟩ = some (.int .i64 K.B)) (first | go_keep | (exact ⟨((‹Hid (Poke K.gf w.drew _)›).out.cell hRf).trans b0, ((‹Hid (Poke K.gf w.drew _)›).out.cell hRf).trans b2, ((‹Hid (Poke K.gf w.drew _)›).out.cell hRf).trans b3⟩))
          ((refine step_copy rfl (.tmp 13) (.tmp 26) 22 22 rfl 5 Tryd.underlying22 Tryd.size5 (some ⟨K.gf, 0, none⟩) (some ⟨K.gf, 0, none⟩) K.B K.B 0 0 (by simp [Act.eval, Act.put]) (by simp [Act.eval, Act.put]) K.gf 0 cur 5 HG.out cs K1.out (fun h => absurd h hlen0.out) K3.out K4.out ?_; intro w2 hg2 hp2))
        have p2 : Poke K.gf w w2 := ((‹Hid (Poke K.gf w.drew w2)›).out).of_drew
        have e0 := (p2.cell (a := ⟨K.gR, 0, none⟩) hRf).trans b0
        have e2 := (p2.cell (a := ⟨K.gR, 2, none⟩) hRf).trans b2
        have e3 := (p2.cell (a := ⟨K.gR, 3, none⟩) hRf).trans b3
        have f3 := (p2.frozen (a := ⟨K.gR, 3, none⟩) hRf).trans (HS.out.fz 3)
        have f2 := (p2.frozen (a := ⟨K.gR, 2, none⟩) hRf).trans (HS.out.fz 2)
        have P2 := Hid.mk p2
        have G2 : Hid (w2.heap[K.gf]? = some (.cells (splice cur 0 cs).toArray 5 (0, 0))) := ‹Hid (w2.heap[K.gf]? = _)›
        clear p2
        go_wp2
        have hwrap : (K.B : Int) - (K.B : Int) = 0 := by omega
        go_region
        go_wp2
        go_meet
        have hsl := HS.out.slide ok cur HG.out HCL.out P2.out (by rw [← HCS.out]; exact G2.out)
        rw [hwrap] at hsl
        have hk2 : Kp K.X w ((w2.setCell ⟨K.gR, 3, none⟩ (.int .i64 0)).setCell ⟨K.gR, 2, none⟩ (.int .i64 0)) := (((Kp.refl _ _).poke (Or.inr (Or.inr rfl)) P2.out).setCell (Or.inr (Or.inl rfl)) _).setCell (Or.inr (Or.inl rfl)) _
        exact ⟨hk2.drew, hsl.drew ok⟩
      · have hne : ¬ K.B = r := by omega
        go_wp2
        go_region_held3 (fun w' => w'.cell? ⟨K.gR, 0, none⟩ = some (.slice (some ⟨K.gf, 0, none⟩) K.B K.B) ∧ w'.cell? ⟨K.gR, 2, none⟩ = some (.int .i64 r) ∧ w'.cell? ⟨K.gR, 3, none⟩ = some (.int .i64 wd)) (first | go_keep | (exact ⟨((‹Hid (Poke K.gf w.drew _)›).out.cell hRf).trans b0, ((‹Hid (Poke K.gf w.drew _)›).out.cell hRf).trans b2, ((‹Hid (Poke K.gf w.drew _)›).out.cell hRf).trans b3⟩))
          ((refine step_copy rfl (.tmp 13) (.tmp 26) 22 22 rfl 5 Tryd.underlying22 Tryd.size5 (some ⟨K.gf, 0, none⟩) (some ⟨K.gf, r, none⟩) K.B K.B (wd - r) (K.B - r) (by simp [Act.eval, Act.put]) (by simp [Act.eval, Act.put]) K.gf 0 cur 5 HG.out cs K1.out (fun _ => ⟨rfl, _, rfl, K2.out⟩) K3.out K4.out ?_; intro w2 hg2 hp2))
        have p2 : Poke K.gf w w2 := ((‹Hid (Poke K.gf w.drew w2)›).out).of_drew
        have e0 := (p2.cell (a := ⟨K.gR, 0, none⟩) hRf).trans b0
        have e2 := (p2.cell (a := ⟨K.gR, 2, none⟩) hRf).trans b2
        have e3 := (p2.cell (a := ⟨K.gR, 3, none⟩) hRf).trans b3
        have f3 := (p2.frozen (a := ⟨K.gR, 3, none⟩) hRf).trans (HS.out.fz 3)
        have f2 := (p2.frozen (a := ⟨K.gR, 2, none⟩) hRf).trans (HS.out.fz 2)
        have P2 := Hid.mk p2
        have G2 : Hid (w2.heap[K.gf]? = some (.cells (splice cur 0 cs).toArray 5 (0, 0))) := ‹Hid (w2.heap[K.gf]? = _)›
        clear p2
        go_wp2
        have hwrap : IntKind.i64.wrap ((wd : Int) - (r : Int)) = (wd : Int) - (r : Int) := by rw [IntKind.wrap_i64]; omega
        go_region
        go_wp2
        go_meet
        have hsl := HS.out.slide ok cur HG.out HCL.out P2.out (by rw [← HCS.out]; exact G2.out)
        have hk2 : Kp K.X w ((w2.setCell ⟨K.gR, 3, none⟩ (.int .i64 ((wd : Int) - (r : Int)))).setCell ⟨K.gR, 2, none⟩ (.int .i64 0)) := (((Kp.refl _ _).poke (Or.inr (Or.inr rfl)) P2.out).setCell (Or.inr (Or.inl rfl)) _).setCell (Or.inr (Or.inl rfl)) _
        exact ⟨hk2.drew, hsl.drew ok⟩
  case rest =>
    obtain ⟨hk, hbr⟩ := hcut
    have HK := Hid.mk hk
    have HB := Hid.mk hbr
    generalize hq : wd - r = q at *
    have HQ := Hid.mk hq
    have e0 := hbr.b0
    have e1 := hbr.b1
    have e2 := hbr.b2
    have e3 := hbr.b3
    clear b0 b1 b2 b3 b4 hk hbr hq hrw hw4
    go_wp2
    go_quiet (fail)
    go_wp2
    refine wp_loop_rounds 1 ?_; rw [rounds_succ]
    go_wp2
    generalize hW : wc.drewN nq = w1
    have HB1 : Hid (Br K w1 0 q i p .nilIface) := by rw [← hW]; exact HB.out.drewN ok _
    have HK1 : Hid (Kp K.X w w1) := by rw [← hW]; exact HK.out.drewN _
    have e0 := HB1.out.b0
    have e1 := HB1.out.b1
    have e3 := HB1.out.b3
    clear hW HB HK
    have hsl0 : (0 : Int) ≤ (q : Int) := by omega
    have hsl1 : (q : Int) ≤ (K.B : Int) := by omega
    have hne : ¬ K.B = q := by omega
    have HSRC : Hid (Src K w1.drew i) := (HB1.out.drew ok).src
    obtain ⟨cur, hg, hcl, hcur⟩ := HB1.out.buf.ex
    have HG : Hid (w1.drew.heap[K.gf]? = some (.cells cur.toArray 5 (0, 0))) := hg
    have HCL := Hid.mk hcl
    have HCUR := Hid.mk hcur
    have hsrcf : Hid (∀ b o, K.sa = some ⟨b, o, none⟩ → b ≠ K.gf) := fun b o e => (ok.src b o e).2.2
    have hfb : K.gf ≠ K.gb := Ne.symm ok.bf
    have hf0 : K.gf ≠ 0 := by have := ok.f0; omega
    have nR : ¬ (K.gR = K.gb ∨ K.gR = K.gf) := by have := ok.bR; have := ok.Rf; omega
    clear hg hcl hcur
    have hm := method_read ⟨K.gb, 0, none⟩
    by_cases hi : i < K.N
    · go_region_held3 (fun w' => w'.cell? ⟨K.gR, 0, none⟩ = some (.slice (some ⟨K.gf, 0, none⟩) K.B K.B) ∧ w'.cell? ⟨K.gR, 1, none⟩ = some (.iface 42 (.pointer (some ⟨K.gb, 0, none⟩))) ∧ w'.cell? ⟨K.gR, 3, none⟩ = some (.int .i64 q)) (first | go_keep | (exact ⟨(‹Hid (Kp (fun k => k = K.gb ∨ k = K.gf) w1.drew _)›).out.cell nR e0, (‹Hid (Kp (fun k => k = K.gb ∨ k = K.gf) w1.drew _)›).out.cell nR e1, (‹Hid (Kp (fun k => k = K.gb ∨ k = K.gf) w1.drew _)›).out.cell nR e3⟩))
        ((go_at_call 48; refine (read_some K ok i K.gf q (K.B - q) (K.B - q) cur _ HSRC.out hi (by omega) (by omega) HG.out (by rw [HCL.out]; omega) hfb hsrcf.out hf0).mono ?_; rintro e w2 ⟨n, hn, rfl, hrow, hsrc2, hk2⟩; have HN := Hid.mk hn; have HROW := Hid.mk hrow; have HSRC2 := Hid.mk hsrc2; have HK2 := Hid.mk hk2; clear hn hrow hsrc2 hk2))
      have hn := HN.out
      have hn0 : 0 < n := by omega
      have hn3 : i + n ≤ K.N := by omega
      have hqn : q + n ≤ K.B := by omega
      have k12 : Kp (fun k => k = K.gb ∨ k = K.gf) w1 w2 := HK2.out.of_drew
      have K12 := Hid.mk k12
      have g3 := k12.cell (a := ⟨K.gR, 3, none⟩) nR e3
      have f3 : w2.frozen? ⟨K.gR, 3, none⟩ = false := (k12.frozen (a := ⟨K.gR, 3, none⟩) HB1.out.lt nR).trans (HB1.out.fz 3)
      clear hn k12
      go_wp2
      refine bodyPost_ret (results_none rfl _ _ _) rfl ⟨rfl, ?_, n, .nilIface, ?_, ?_, ?_⟩
      · exact (HK1.out.trans (K12.out.mono (fun k _ h => by rcases h with h | h; exact Or.inl h; exact Or.inr (Or.inr h)))).setCell (Or.inr (Or.inl rfl)) _
      · rw [HQ.out]; exact HN.out
      · simp [hi]
      · rw [HQ.out]
        exact HB1.out.filled ok cur HCL.out HCUR.out K12.out HSRC2.out HROW.out hn3 hqn rfl
    · obtain rfl : K.N = i := by have := HSRC.out.le; omega
      go_region_held3 (fun w' => w'.cell? ⟨K.gR, 0, none⟩ = some (.slice (some ⟨K.gf, 0, none⟩) K.B K.B) ∧ w'.cell? ⟨K.gR, 1, none⟩ = some (.iface 42 (.pointer (some ⟨K.gb, 0, none⟩))) ∧ w'.cell? ⟨K.gR, 3, none⟩ = some (.int .i64 q)) (first | go_keep | (exact ⟨(‹Hid (Kp (fun _ => False) w1.drew _)›).out.cell (fun h => h) e0, (‹Hid (Kp (fun _ => False) w1.drew _)›).out.cell (fun h => h) e1, (‹Hid (Kp (fun _ => False) w1.drew _)›).out.cell (fun h => h) e3⟩))
        ((go_at_call 48; refine (read_eof K ok (K.B - q) (K.B - q) _ _ HSRC.out).mono ?_; rintro e w2 ⟨rfl, hsrc2, hk2⟩; have HSRC2 := Hid.mk hsrc2; have HK2 := Hid.mk hk2; clear hsrc2 hk2))
      have k12 : Kp (fun _ => False) w1 w2 := HK2.out.of_drew
      have K12 := Hid.mk k12
      have HB2 : Hid (Br K w2 0 q K.N p .nilIface) := HB1.out.kept ok k12 (fun h => h) (fun h => h) (fun h => h) (fun h => h) (fun h => h) (fun _ _ _ h => h)
      have g3 := k12.cell (a := ⟨K.gR, 3, none⟩) (fun h => h) e3
      have g4 := HB2.out.b4
      have f3 := HB2.out.fz 3
      have f4 := HB2.out.fz 4
      clear k12
      go_wp2
      refine bodyPost_ret (results_none rfl _ _ _) rfl ⟨rfl, ?_, 0, .iface 75 (.pointer (some K.ea)), ?_, ?_, ?_⟩
      · exact ((HK1.out.trans (K12.out.mono (fun k _ h => h.elim))).setCell (Or.inr (Or.inl rfl)) _).setCell (Or.inr (Or.inl rfl)) _
      · simp
      · simp
      · rw [HQ.out]
        exact (HB2.out.setW ok).setErr ok _ (Or.inr ⟨rfl, rfl⟩)
end Go.Proofs.Qxb6606225aDoor
