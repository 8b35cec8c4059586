/-
  The start of a law: the stampMax that was made of clones; the first appendTo.
-/
import Derived.Test.Qxb6606351aAto
import Derived.Test.Qxb6606351aIdle
import Derived.Test.Qxb6606351aUni
namespace Go.Proofs.Qxb6606351a
open Go.ChangeShapes Go.WideShapes Go.ChangeAt Go.RowKit
set_option linter.unusedVariables false
set_option linter.unusedSimpArgs false

theorem bkp {w w' : World} (h : Below w.heap.size w w') : Kp (fun _ => False) w w' := ⟨h.os, h.tape, h.output, h.size, fun i hi _ => h.block i hi⟩

/-- What lies when appendTo is called for the first time. -/
structure Begin (C : Cf) (aL : Option Addr) (cL : Nat) (aB : Option Addr) (cB : Nat) (fr : Value) (R : List Value) (w : World) : Prop where
  sm : Sm w C.gm (.slice aL C.n cL) (.slice aB C.n cB) C.la C.ad fr
  pos : 0 < C.n → aL = some ⟨C.gL, 0, none⟩ ∧ cL = C.n ∧ aB = some ⟨C.gB, 0, none⟩ ∧ cB = C.n ∧ w.rowIs C.gL 34 C.n C.LV ∧ w.rowIs C.gB 4 C.n (fun i => .bool (C.FU i)) ∧ ∀ i, i < C.n → w.ownsRow 0 39 2 (C.LV i) (C.EL i).length (flat (C.EL i))
  lao : w.ownsRow 0 39 2 C.la C.el.length (flat C.el)
  vdo : w.ownsRow 0 39 2 C.vd C.d C.xs
  fro : w.ownsRow 0 34 1 fr R.length R
  ro : ∀ r ∈ R, w.ownsRow 0 39 2 r 0 []
  ap : ∀ k, (if k = C.gm then 1 else 0) + (if k = C.gL ∧ 0 < C.n then 1 else 0) + (if k = C.gB ∧ 0 < C.n then 1 else 0) + cb k C.la + cb k C.vd + cb k fr + sumTo C.n (fun i => cb k (C.LV i)) + cbs k R ≤ if k < C.B then 0 else 1
  big : C.B ≤ w.heap.size

theorem begin_of {w0 w1 w2 w3 w4 w5 w6 : World} {aLi aFi aL aB aF : Option Addr} {n nf cL cB cF : Nat} {L Lf : Nat → List E} {A Af : Nat → Option Addr} {F : Nat → Bool} {f g : Nat → Value} {la ad vd : Value} {el ed : List E}
    (h1 : (aL = none ∧ n = 0 ∧ cL = 0 ∧ aLi = none) ∨ (aL = some ⟨w0.heap.size, 0, none⟩ ∧ cL = n ∧ aLi ≠ none ∧ Tsd w1 w0.heap.size n L A f n)) (b1 : Below w0.heap.size w0 w1)
    (h2 : 0 < n → aB = some ⟨w1.heap.size, 0, none⟩ ∧ cB = n ∧ w2.rowIs w1.heap.size 4 n (fun i => .bool (F i))) (b2 : Below w1.heap.size w1 w2)
    (h3 : w3.ownsRow 0 39 2 la el.length (flat el)) (h3b : ∀ k, la.ownBlock = some k → w2.heap.size ≤ k) (b3 : Below w2.heap.size w2 w3)
    (h4 : (aF = none ∧ nf = 0 ∧ cF = 0 ∧ aFi = none) ∨ (aF = some ⟨w3.heap.size, 0, none⟩ ∧ cF = nf ∧ aFi ≠ none ∧ Tsd w4 w3.heap.size nf Lf Af g nf)) (b4 : Below w3.heap.size w3 w4)
    (h5 : Sm w5 w4.heap.size (.slice aL n cL) (.slice aB n cB) la ad (.slice aF nf cF)) (b5 : Below w4.heap.size w4 w5)
    (h6 : w6.ownsRow 0 39 2 vd ed.length (flat ed)) (h6b : ∀ k, vd.ownBlock = some k → w5.heap.size ≤ k) (b6 : Below w5.heap.size w5 w6)
    (hr : ∀ i, i < nf → (Lf i).length = 0) (hnf : nf ≤ 1048576) :
    Begin { B := w0.heap.size, gm := w4.heap.size, gL := w0.heap.size, gB := w1.heap.size, n := n, LV := f, FU := F, EL := L, la := la, el := el, ad := ad, vd := vd, d := ed.length, xs := flat ed } aL cL aB cB (.slice aF nf cF) (row nf g) w6 := by
  have k2 := bkp b2
  have k3 := bkp b3
  have k4 := bkp b4
  have k5 := bkp b5
  have k6 := bkp b6
  have K46 := k5.trans k6
  have K36 := k4.trans K46
  have K26 := k3.trans K36
  have K16 := k2.trans K26
  have r1 : Rng w0.heap.size w1.heap.size (fun k => (if k = w0.heap.size ∧ 0 < n then 1 else 0) + sumTo n (fun i => cb k (f i))) := by
    rcases h1 with ⟨_, rfl, _, _⟩ | ⟨_, _, _, ht⟩
    · intro k
      have : (if k = w0.heap.size ∧ 0 < 0 then 1 else 0) + sumTo 0 (fun i => cb k (f i)) = 0 := by simp [sumTo]
      simp only [this]
      exact ⟨by omega, fun _ => trivial, fun _ => trivial⟩
    · intro k
      obtain ⟨p1, p2, p3⟩ := ht.rng k
      have hle : (if k = w0.heap.size ∧ 0 < n then 1 else 0) ≤ (if k = w0.heap.size then 1 else 0) := by
        by_cases e : k = w0.heap.size
        · rw [if_pos e]; split <;> omega
        · rw [if_neg e, if_neg (fun h => e h.1)]; omega
      refine ⟨?_, fun hk => ?_, fun hk => ?_⟩
      · show _ + _ ≤ 1
        have : _ + _ ≤ 1 := p1
        omega
      · show _ + _ = 0
        have : _ + _ = 0 := p2 hk
        omega
      · show _ + _ = 0
        have : _ + _ = 0 := p3 hk
        omega
  have r2 : Rng w1.heap.size w2.heap.size (fun k => if k = w1.heap.size ∧ 0 < n then 1 else 0) := by
    by_cases hp : 0 < n
    · have := Rng.one (Nat.le_refl w1.heap.size) (rowIs_lt (h2 hp).2.2)
      simpa [hp] using this
    · intro k
      have : (if k = w1.heap.size ∧ 0 < n then 1 else 0) = 0 := if_neg (fun h => hp h.2)
      simp only [this]
      exact ⟨by omega, fun _ => trivial, fun _ => trivial⟩
  have r3 := Rng.own h3 h3b
  have r4 : Rng w3.heap.size w4.heap.size (fun k => cb k (.slice aF nf cF) + cbs k (row nf g)) := by
    rcases h4 with ⟨rfl, rfl, rfl, _⟩ | ⟨rfl, _, _, ht⟩
    · intro k
      have : cb k (.slice none 0 0) + cbs k (row 0 g) = 0 := by rw [cb_nil]; rfl
      simp only [this]
      exact ⟨by omega, fun _ => trivial, fun _ => trivial⟩
    · have := ht.rng
      intro k
      have h := this k
      have e : cb k (.slice (some ⟨w3.heap.size, 0, none⟩) nf cF) = if k = w3.heap.size then 1 else 0 := by
        unfold cb
        show (if some w3.heap.size = some k then 1 else 0) = _
        by_cases e : k = w3.heap.size
        · subst e; simp
        · rw [if_neg e, if_neg (fun h => e (Option.some.inj h).symm)]
      simp only [e, row_cbs]
      exact h
  have r5 := Rng.one (Nat.le_refl w4.heap.size) h5.lt
  have r6 := Rng.own h6 h6b
  have rr := ((((r1.add r2 b1.size b2.size).add r3 (Nat.le_trans b1.size b2.size) b3.size).add r4 (Nat.le_trans (Nat.le_trans b1.size b2.size) b3.size) b4.size).add r5 (Nat.le_trans (Nat.le_trans (Nat.le_trans b1.size b2.size) b3.size) b4.size) b5.size).add r6 (Nat.le_trans (Nat.le_trans (Nat.le_trans (Nat.le_trans b1.size b2.size) b3.size) b4.size) b5.size) b6.size
  refine ⟨h5.kept k6 (fun h => h), fun hp => ?_, K36.own h3 (fun _ _ h => h), h6, ?_, fun r hrm => ?_, fun k => ?_, ?_⟩
  · obtain ⟨p1, p2, p3⟩ := h2 hp
    rcases h1 with ⟨_, e0, _, _⟩ | ⟨q1, q2, _, ht⟩
    · have hp' : 0 < n := hp
      omega
    · exact ⟨q1, q2, p1, p2, K16.rowIs ht.row (fun h => h), K26.rowIs p3 (fun h => h), fun i hi => K16.own (ht.own i hi) (fun _ _ h => h)⟩
  · rw [row_length]
    rcases h4 with ⟨rfl, rfl, rfl, _⟩ | ⟨rfl, rfl, _, ht⟩
    · exact nil_own _ _ _
    · exact K46.own (row_own ht.row hnf) (fun _ _ h => h)
  · obtain ⟨i, hi, rfl⟩ := List.mem_map.1 hrm
    have hi' := List.mem_range.1 hi
    rcases h4 with ⟨_, e0, _, _⟩ | ⟨_, _, _, ht⟩
    · omega
    · have h9 := ht.own i hi'
      rw [hr i hi', List.eq_nil_of_length_eq_zero (hr i hi')] at h9
      exact K46.own h9 (fun _ _ h => h)
  · obtain ⟨q1, q2, _⟩ := rr k
    simp only at q1 q2 ⊢
    by_cases hkB : k < w0.heap.size
    · have h9 := q2 hkB
      rw [if_pos hkB]
      omega
    · rw [if_neg hkB]
      omega
  · exact Nat.le_trans b1.size (Nat.le_trans b2.size (Nat.le_trans b3.size (Nat.le_trans b4.size (Nat.le_trans b5.size b6.size))))

/-- What the first appendTo leaves. -/
structure Fst (C : Cf) (aL : Option Addr) (cL : Nat) (aB : Option Addr) (cB : Nat) (f : Nat) (w w' : World) (v' fr' : Value) (R' : List Value) : Prop where
  own : w'.ownsRow 0 39 2 v' (C.d + (atoRes C).length) (C.xs ++ flat (atoRes C))
  sm : Sm w' C.gm (.slice aL C.n cL) (.slice aB C.n cB) nilS (.int .i64 0) fr'
  pos : 0 < C.n → aL = some ⟨C.gL, 0, none⟩ ∧ cL = C.n ∧ aB = some ⟨C.gB, 0, none⟩ ∧ cB = C.n ∧ w'.rowIs C.gL 34 C.n (LVc C.LV C.FU C.n) ∧ w'.rowIs C.gB 4 C.n (fun i => .bool false) ∧ (∀ i, i < C.n → C.FU i = false → w'.ownsRow 0 39 2 (C.LV i) (C.EL i).length (flat (C.EL i))) ∧ C.gm ≠ C.gB
  fro : w'.ownsRow 0 34 1 fr' R'.length R'
  ro : ∀ r ∈ R', w'.ownsRow 0 39 2 r 0 []
  len : R'.length = frm C.FU f C.n + (if ownF C.FU C.n = true then 1 else 0)
  bel : Below C.B w w'
def FstDone (C : Cf) (aL : Option Addr) (cL : Nat) (aB : Option Addr) (cB : Nat) (f : Nat) (w w' : World) (e : Ending) : Prop := ∃ v' fr' R', e = .returned v' ∧ Fst C aL cL aB cB f w w' v' fr' R'

theorem Begin.mem {C : Cf} {aL : Option Addr} {cL : Nat} {aB : Option Addr} {cB : Nat} {fr : Value} {R : List Value} {w : World} (b : Begin C aL cL aB cB fr R w) (hp : 0 < C.n) : Mem C w 0 0 nilS [] fr R [] := by
  obtain ⟨rfl, rfl, rfl, rfl, p1, p2, p3⟩ := b.pos hp
  refine ⟨b.sm, p1.congr (fun i _ => by simp [LVc]), p2.congr (fun i _ => by simp [FUc]), fun i hi _ => p3 i hi, b.lao, b.vdo, nil_own _ _ _, b.fro, b.ro, (fun x hx => by cases hx), fun k => ?_, b.big⟩
  have h1 := b.ap k
  have e1 : (k = C.gL ∧ 0 < C.n) = (k = C.gL) := by simp [hp]
  have e2 : (k = C.gB ∧ 0 < C.n) = (k = C.gB) := by simp [hp]
  simp only [e1, e2] at h1
  unfold Cf.tot
  rw [cb_nil]
  have e3 : (fun i => cb k (LVc C.LV C.FU 0 i)) = fun i => cb k (C.LV i) := by funext i; simp [LVc]
  rw [e3]
  show _ + cbs k [] ≤ _
  simp only [cbs]
  omega

theorem first_any (C : Cf) (aL : Option Addr) (cL : Nat) (aB : Option Addr) (cB : Nat) (f : Nat) (fr : Value) (R : List Value) (w : World) (b : Begin C aL cL aB cB fr R w) (hf : R.length = f) (hn : C.n ≤ 65536) (hsum : sumTo C.n (fun i => (C.EL i).length) ≤ 1048576) (hf1 : f ≤ 65536) (hel : C.el.length ≤ 1048576) (hd : C.d ≤ 1048576) :
    Calls Try.prog 26 #[.pointer (some ⟨C.gm, 0, none⟩), C.vd] w fun e w' => FstDone C aL cL aB cB f w w' e := by
  by_cases hp : 0 < C.n
  · refine (ato_loop C f R fr w (b.mem hp) hf hn hsum hf1 hel hd).mono ?_
    rintro e w' ⟨v', fr', R', rfl, M, ho, hl, hb⟩
    obtain ⟨rfl, rfl, rfl, rfl, p1, p2, p3⟩ := b.pos hp
    have hfu : w'.rowIs C.gB 4 C.n (fun i => .bool false) := World.rowIs.congr (b := C.gB) (n := C.n) M.fu (fun i hi => by
      show Value.bool (FUc C.FU C.n i) = _
      have : FUc C.FU C.n i = false := by simp [FUc, hi]
      rw [this])
    have hlo : ∀ i, i < C.n → C.FU i = false → w'.ownsRow 0 39 2 (C.LV i) (C.EL i).length (flat (C.EL i)) := fun i hi hfi => M.lvo i hi (fun h => by
      have h2 : C.FU i = true := h.2
      rw [hfi] at h2
      cases h2)
    exact ⟨v', fr', R', rfl, ho, M.sm, fun _ => ⟨rfl, rfl, rfl, rfl, M.lv, hfu, hlo, M.gmB⟩, M.fro, M.ro, hl, hb⟩
  · have h0 : C.n = 0 := by omega
    have hap := b.ap
    have hap1 := fun k => Nat.le_trans (b.ap k) (show (if k < C.B then 0 else 1) ≤ 1 by by_cases h : k < C.B <;> simp [h])
    have hne : ∀ k, C.vd.ownBlock = some k → k ≠ C.gm := fun k hk e => by
      have h1 := hap1 k
      rw [cb_one hk, if_pos e] at h1
      omega
    refine (ato_idle C.gm C.n cL cB aL aB C.la C.ad fr C.vd C.d C.xs C.el w b.sm (by omega) (Or.inl h0) b.lao b.vdo hne hel hd).mono ?_
    rintro e w' ⟨v', rfl, ho, hs, hk, _⟩
    have e1 : atoRes C = C.el := by unfold atoRes; rw [h0]; simp [fnd]
    have hz : ∀ k, (C.vd.ownBlock = some k ∨ k = C.gm) → cb k fr + cbs k R = 0 := fun k hk' => by
      have h1 := hap1 k
      rcases hk' with e | e
      · rw [cb_one e] at h1; omega
      · rw [if_pos e] at h1; omega
    have hB : ∀ k, (C.vd.ownBlock = some k ∨ k = C.gm) → C.B ≤ k := fun k hk' => by
      have h1 := hap k
      by_cases hlt : k < C.B
      · rw [if_pos hlt] at h1
        rcases hk' with e | e
        · rw [cb_one e] at h1; omega
        · rw [if_pos e] at h1; omega
      · omega
    refine ⟨v', fr, R, rfl, by rw [e1]; exact ho, hs, (fun h => by omega), hk.own b.fro (fun k hv hx => ?_), fun r hr => hk.own (b.ro r hr) (fun k hv hx => ?_), ?_, kp_below hk b.big hB⟩
    · have := hz k hx
      rw [cb_one hv] at this
      omega
    · have h2 := hz k hx
      have h3 := cbs_ge (k := k) hr
      rw [cb_one hv] at h3
      omega
    · rw [h0, hf]
      simp [frm, ownF]

set_option maxHeartbeats 1000000 in
/-- By the exported name. -/
theorem first_any' (C : Cf) (aL : Option Addr) (cL : Nat) (aB : Option Addr) (cB : Nat) (f : Nat) (fr : Value) (R : List Value) (w : World) (b : Begin C aL cL aB cB fr R w) (hf : R.length = f) (hn : C.n ≤ 65536) (hsum : sumTo C.n (fun i => (C.EL i).length) ≤ 1048576) (hf1 : f ≤ 65536) (hel : C.el.length ≤ 1048576) (hd : C.d ≤ 1048576) :
    Calls Try.prog 13 #[.pointer (some ⟨C.gm, 0, none⟩), C.vd] w fun e w' => FstDone C aL cL aB cB f w w' e := by
  have h := first_any C aL cL aB cB f fr R w b hf hn hsum hf1 hel hd
  have H := Hid.mk h
  clear h b hf hn hsum hf1 hel hd
  generalize C.vd = vd at *
  go_enter Try.func13, Try.ntmps13
  go_wp2_with fail
  refine H.out.mono ?_
  rintro e w1 ⟨v', fr', R', rfl, F⟩
  have HF := Hid.mk F
  clear F
  go_wp2
  go_ret
  exact ⟨v', fr', R', rfl, HF.out⟩

set_option maxHeartbeats 1000000 in
/-- The second appendTo, by the exported name. -/
theorem idle' (gm n cL cB : Nat) (aL aB : Option Addr) (la ad fr vd : Value) (d : Nat) (xs : List Value) (el : List E) (w : World) (hs : Sm w gm (.slice aL n cL) (.slice aB n cB) la ad fr) (hn : n ≤ 1048576)
    (hfu : n = 0 ∨ ∃ gB, aB = some ⟨gB, 0, none⟩ ∧ ∀ i, i < n → w.cell? ⟨gB, i, none⟩ = some (.bool false)) (hla : w.ownsRow 0 39 2 la el.length (flat el)) (hvd : w.ownsRow 0 39 2 vd d xs) (hne : ∀ k, vd.ownBlock = some k → k ≠ gm)
    (hel : el.length ≤ 1048576) (hd : d ≤ 1048576) :
    Calls Try.prog 13 #[.pointer (some ⟨gm, 0, none⟩), vd] w fun e w' => IdleDone gm (.slice aL n cL) (.slice aB n cB) fr vd d xs el w w' e := by
  have H := Hid.mk (ato_idle gm n cL cB aL aB la ad fr vd d xs el w hs hn hfu hla hvd hne hel hd)
  clear hs hn hfu hla hvd hne hel hd
  go_enter Try.func13, Try.ntmps13
  go_wp2_with fail
  refine H.out.mono ?_
  rintro e w1 ⟨v', rfl, F⟩
  have HF := Hid.mk F
  clear F
  go_wp2
  go_ret
  exact ⟨v', rfl, HF.out⟩
end Go.Proofs.Qxb6606351a
