/-
  The walk of appendTo where no level is full.
-/
import Derived.Test.Qxb6606351aStep2
import Derived.Deep.DeepCutAuto
import Derived.Deep.CutBlock
namespace Go.Proofs.Qxb6606351a
open Go.ChangeShapes Go.WideShapes Go.ChangeAt Go.RowKit
set_option linter.unusedVariables false
set_option linter.unusedSimpArgs false

/-- What appendTo leaves where no level is full. -/
def IdleDone (gm : Nat) (lv fu fr vd : Value) (d : Nat) (xs : List Value) (el : List E) (w w' : World) (e : Ending) : Prop :=
  ∃ v', e = .returned v' ∧ w'.ownsRow 0 39 2 v' (d + el.length) (xs ++ flat el) ∧ Sm w' gm lv fu nilS (.int .i64 0) fr ∧ Kp (fun k => vd.ownBlock = some k ∨ k = gm) w w' ∧ (v'.ownBlock = vd.ownBlock ∨ ∃ g, v'.ownBlock = some g ∧ w.heap.size ≤ g)

theorem idle_end {gm : Nat} {lv fu la ad fr vd v' : Value} {w w1 : World} {d : Nat} {xs : List Value} {el : List E} (hs : Sm w gm lv fu la ad fr) (O : Onto w w1 vd v') (ho : w1.ownsRow 0 39 2 v' (d + el.length) (xs ++ flat el)) (hne : ∀ k, vd.ownBlock = some k → k ≠ gm) :
    IdleDone gm lv fu fr vd d xs el w ((w1.setCell ⟨gm, 2, none⟩ nilS).setCell ⟨gm, 3, none⟩ (.int .i64 0)) (.returned v') := by
  have k1 : Kp (fun k => vd.ownBlock = some k) w w1 := ⟨O.1.os, O.1.tape, O.1.output, O.1.size, fun k hk hz => O.1.block k hk (fun e => hz e.symm)⟩
  have k2 : Kp (fun k => k = gm) w1 ((w1.setCell ⟨gm, 2, none⟩ nilS).setCell ⟨gm, 3, none⟩ (.int .i64 0)) :=
    Kp.setCell (X := fun k => k = gm) (Kp.setCell (X := fun k => k = gm) (Kp.refl _ w1) (p := ⟨gm, 2, none⟩) rfl _) (p := ⟨gm, 3, none⟩) rfl _
  have s1 := hs.kept k1 (fun e => hne _ e rfl)
  refine ⟨v', rfl, k2.own ho (fun k hv hz => ?_), (s1.last nilS).added _, (k1.mono (fun k _ e => Or.inl e)).trans (k2.mono (fun k _ e => Or.inr e)), O.2⟩
  rcases O.2 with e | ⟨g, e, hg⟩
  · exact hne k (e ▸ hv) hz
  · rw [e] at hv
    have := Option.some.inj hv
    have := hs.lt
    omega

set_option maxRecDepth 100000 in
set_option maxHeartbeats 4000000 in
theorem ato_idle (gm n cL cB : Nat) (aL aB : Option Addr) (la ad fr vd : Value) (d : Nat) (xs : List Value) (el : List E) (w : World) (hs : Sm w gm (.slice aL n cL) (.slice aB n cB) la ad fr) (hn : n ≤ 1048576)
    (hfu : n = 0 ∨ ∃ gB, aB = some ⟨gB, 0, none⟩ ∧ ∀ i, i < n → w.cell? ⟨gB, i, none⟩ = some (.bool false)) (hla : w.ownsRow 0 39 2 la el.length (flat el)) (hvd : w.ownsRow 0 39 2 vd d xs) (hne : ∀ k, vd.ownBlock = some k → k ≠ gm)
    (hel : el.length ≤ 1048576) (hd : d ≤ 1048576) :
    Calls Try.prog 26 #[.pointer (some ⟨gm, 0, none⟩), vd] w fun e w' => IdleDone gm (.slice aL n cL) (.slice aB n cB) fr vd d xs el w w' e := by
  obtain ⟨i9, hi, hz0, hz1, hz2⟩ : ∃ i, Try.prog.info? 39 = some i ∧ i.zero = some (.agg #[.int .i64 0, .int .u64 0]) ∧ i.size = 2 ∧ i.bytes = 16 := by
    obtain ⟨i, hi, hzz⟩ := Option.map_eq_some_iff.1 Try.info39
    simp only [Prod.mk.injEq] at hzz
    exact ⟨i, hi, hzz.1, hzz.2.1, hzz.2.2⟩
  have HI9 := Hid.mk hi
  have HZ90 := Hid.mk hz0
  have HZ91 := Hid.mk hz1
  have HZ92 := Hid.mk hz2
  clear hi hz0 hz1 hz2
  have HS := Hid.mk hs
  have HFU := Hid.mk hfu
  have HLA := Hid.mk hla
  have HVD := Hid.mk hvd
  have HNE := Hid.mk hne
  have c0 := hs.c0
  have c1 := hs.c1
  have c2 := hs.c2
  have c3 := hs.c3
  have z2 := hs.fz 2
  have z3 := hs.fz 3
  clear hs hfu hla hvd hne
  go_enter Try.func26, Try.ntmps26
  go_wp2
  go_loopw [5, 6, 7, 8, 9, 15] (fun vf fo ow hh mg ix wr => ∃ h : Nat, h ≤ n ∧ fo = .bool false ∧ ow = .bool false ∧ ix = .int .i64 h ∧ wr = w) (fun _ _ _ _ _ ix _ => n - (intOf ix).toNat)
  case atStart => exact ⟨0, Nat.zero_le _, rfl, rfl, rfl, rfl⟩
  case round =>
    obtain ⟨h, hh, rfl, rfl, rfl, hwr⟩ := hrel
    obtain rfl : w = wr := hwr.symm
    by_cases hlt : h < n
    · have hlt' : (h : Int) < (n : Int) := by omega
      obtain ⟨gB, hgB, hcB⟩ : ∃ gB, aB = some ⟨gB, 0, none⟩ ∧ ∀ i, i < n → w.cell? ⟨gB, i, none⟩ = some (.bool false) := by
        rcases HFU.out with h0 | h0
        · omega
        · exact h0
      have fuh := hcB h hlt
      clear hcB
      subst hgB
      go_wp2
      go_roundw
      case rel => exact ⟨h + 1, by omega, rfl, rfl, by go_num, by first | trivial | rfl⟩
      case measure => simp [intOf]; omega
    · obtain rfl : n = h := by omega
      obtain ⟨le, hle⟩ : ∃ le, el.length = le := ⟨_, rfl⟩
      have HLE := Hid.mk hle
      rcases HLA.out.2 with ⟨hl1, hl2⟩ | ⟨g, cap, cur, hl1, _, _, hl2, _⟩
      · subst hl1
        have e0 : el = [] := List.eq_nil_of_length_eq_zero hl2
        have HE0 := Hid.mk e0
        clear e0 hl2 hle
        go_wp2_with (at_builtin; refine wpList_append_none w rfl _ _ 34 rfl 0 39 i9 2 Try.underlying34 HI9.out HZ91.out vd d xs rfl HVD.out _ _ rfl ?_)
        go_wp2
        go_ret
        refine idle_end HS.out (Onto.refl _ _) ?_ HNE.out
        rw [HE0.out]
        show World.ownsRow _ _ _ _ _ d (xs ++ [])
        rw [List.append_nil]
        exact HVD.out
      · subst hl1
        rw [hle] at c2 hl2 hel
        have HNEWS : Hid (∀ j u, (flat el)[j]? = some u → w.cell? ((⟨g, 0, none⟩ : Addr).add j) = some u) := HLA.out.cells (g := g) rfl
        have HLEN : Hid ((flat el).length = le * 2) := by show _ = _; rw [flat_length, hle]
        have HONE := Hid.mk (flat_oneCell el)
        clear hle
        generalize hfe : flat el = fe at *
        have HFE := Hid.mk hfe
        clear hfe
        go_wp2_with (at_builtin; refine wpList_append_own_at w rfl _ _ 34 rfl 0 39 i9 (.agg #[.int .i64 0, .int .u64 0]) 2 16 Try.underlying34 HI9.out HZ90.out HZ91.out HZ92.out rfl (by omega) vd d xs rfl HVD.out ⟨g, 0, none⟩ le cap fe rfl HLEN.out HNEWS.out HONE.out (by unfold maxLen; omega) (by omega) (Nat.zero_le _) ?_)
        intro v1 w1 hown1 hgrow1 hnn1 hat1
        have HO1 := Hid.mk hown1
        have HON1 := Hid.mk ((Onto.refl w vd).step hgrow1 (hat1.imp id fun e => ⟨_, e, Nat.le_refl _⟩))
        have s1 := HS.out.kept (onto_kp HON1.out) (fun e => HNE.out _ e rfl)
        have d2 := s1.c2
        have d3 := s1.c3
        have y2 := s1.fz 2
        have y3 := s1.fz 3
        clear hown1 hgrow1 hnn1 hat1 s1
        go_wp2
        go_ret
        refine idle_end HS.out HON1.out ?_ HNE.out
        rw [HLE.out, HFE.out]
        exact HO1.out
end Go.Proofs.Qxb6606351a
