/-
  The steps of the fold, on the memory alone.
-/
import Derived.Test.Qxb6606351aMem
namespace Go.Proofs.Qxb6606351a
set_option linter.unusedVariables false
set_option linter.unusedSimpArgs false

/-- The rows that a change of the header, or of a row on the way, leaves alone. -/
def Cf.oth (C : Cf) (k h : Nat) (vf : Value) (R : List Value) : Nat := cb k C.la + cb k C.vd + cb k vf + sumTo C.n (fun i => cb k (LVc C.LV C.FU h i)) + cbs k R

/-- v[:0]. -/
def trunc : Value → Value
  | .slice a _ c => .slice a 0 c
  | v => v

section
variable {C : Cf} {w w' : World} {hr h : Nat} {vf : Value} {ef : List E} {fr : Value} {R X : List Value}

theorem Mem.tot_eq (k : Nat) : C.tot k h vf fr R X = (if k = C.gm then 1 else 0) + (if k = C.gL then 1 else 0) + (if k = C.gB then 1 else 0) + cb k fr + cbs k X + C.oth k h vf R := by
  unfold Cf.tot Cf.oth; omega

theorem Mem.sub {h' : Nat} {vf' fr' : Value} {ef' : List E} {R' X' : List Value} (M : Mem C w hr h vf ef fr R X) (hle : ∀ k, C.tot k h' vf' fr' R' X' ≤ C.tot k h vf fr R X) : ∀ k, C.tot k h' vf' fr' R' X' ≤ if k < C.B then 0 else 1 :=
  fun k => Nat.le_trans (hle k) (M.ap k)

/-- What is kept of the others. -/
theorem Mem.core {Z : Nat → Prop} (M : Mem C w hr h vf ef fr R X) (hk : Kp Z w w') (zo : ∀ k, Z k → C.oth k h vf R = 0) :
    (∀ i, i < C.n → ¬ (i < h ∧ C.FU i = true) → w'.ownsRow 0 39 2 (C.LV i) (C.EL i).length (flat (C.EL i))) ∧ w'.ownsRow 0 39 2 C.la C.el.length (flat C.el) ∧ w'.ownsRow 0 39 2 C.vd C.d C.xs ∧ w'.ownsRow 0 39 2 vf ef.length (flat ef) ∧ (∀ r ∈ R, w'.ownsRow 0 39 2 r 0 []) := by
  have own : ∀ {e : TypeId} {size : Nat} {v : Value} {n : Nat} {xs : List Value}, w.ownsRow 0 e size v n xs → (∀ k, cb k v ≤ C.oth k h vf R) → w'.ownsRow 0 e size v n xs := by
    intro e size v n xs ho hc
    refine hk.own ho (fun k hkv hz => ?_)
    have h1 := hc k
    have h2 := zo k hz
    rw [cb_one hkv] at h1
    omega
  refine ⟨fun i hi hn => own (M.lvo i hi hn) (fun k => ?_), own M.lao (fun k => by unfold Cf.oth; omega), own M.vdo (fun k => by unfold Cf.oth; omega), own M.vfo (fun k => by unfold Cf.oth; omega), fun r hr' => own (M.ro r hr') (fun k => ?_)⟩
  · have h1 := sumTo_ge C.n (fun i => cb k (LVc C.LV C.FU h i)) i hi
    have h2 : LVc C.LV C.FU h i = C.LV i := by unfold LVc; rw [if_neg hn]
    simp only [h2] at h1
    unfold Cf.oth
    omega
  · have := cbs_ge (k := k) hr'
    unfold Cf.oth
    omega

theorem Mem.oth0 (M : Mem C w hr h vf ef fr R X) (k : Nat) (hp : 1 ≤ (if k = C.gm then 1 else 0) + (if k = C.gL then 1 else 0) + (if k = C.gB then 1 else 0) + cb k fr + cbs k X) : C.oth k h vf R = 0 := by
  have h1 := M.one k
  rw [Mem.tot_eq] at h1
  omega

theorem Mem.gmL (M : Mem C w hr h vf ef fr R X) : C.gm ≠ C.gL := by
  intro e
  have h1 := M.one C.gm
  rw [Mem.tot_eq, if_pos rfl, if_pos e] at h1
  omega
theorem Mem.gmB (M : Mem C w hr h vf ef fr R X) : C.gm ≠ C.gB := by
  intro e
  have h1 := M.one C.gm
  rw [Mem.tot_eq, if_pos rfl, if_pos e] at h1
  omega
theorem Mem.gLB (M : Mem C w hr h vf ef fr R X) : C.gL ≠ C.gB := by
  intro e
  have h1 := M.one C.gL
  rw [Mem.tot_eq, if_pos (rfl : C.gL = C.gL), if_pos e] at h1
  omega
theorem Mem.far {k : Nat} {v : Value} (M : Mem C w hr h vf ef fr R X) (hv : v.ownBlock = some k) (hc : cb k v ≤ cb k fr + cbs k X + C.oth k h vf R) : k ≠ C.gm ∧ k ≠ C.gL ∧ k ≠ C.gB := by
  have h1 := M.one k
  rw [Mem.tot_eq] at h1
  rw [cb_one hv] at hc
  refine ⟨fun e => ?_, fun e => ?_, fun e => ?_⟩
  · rw [if_pos e] at h1; omega
  · rw [if_pos e] at h1; omega
  · rw [if_pos e] at h1; omega

theorem Mem.lo (M : Mem C w hr h vf ef fr R X) (k : Nat) (hp : 1 ≤ (if k = C.gm then 1 else 0) + (if k = C.gL then 1 else 0) + (if k = C.gB then 1 else 0) + cb k fr + cbs k X) : C.B ≤ k := by
  have h1 := M.ap k
  rw [Mem.tot_eq] at h1
  by_cases hkB : k < C.B
  · rw [if_pos hkB] at h1; omega
  · omega

theorem Mem.skip (M : Mem C w h h vf ef fr R X) (hf : C.FU h = false) : Mem C w (h + 1) (h + 1) vf ef fr R X := by
  have e1 := LVc_skip C.LV C.FU h hf
  have e2 := FUc_skip C.FU h hf
  refine ⟨M.sm, by rw [e1]; exact M.lv, by rw [e2]; exact M.fu, fun i hi hn => M.lvo i hi (fun ⟨a, b⟩ => hn ⟨by omega, b⟩), M.lao, M.vdo, M.vfo, M.fro, M.ro, M.xo, fun k => ?_, M.big⟩
  have := M.ap k
  unfold Cf.tot at this ⊢
  rw [e1]
  exact this

theorem sum_next (C : Cf) (k h : Nat) (hlt : h < C.n) (hf : C.FU h = true) : sumTo C.n (fun i => cb k (LVc C.LV C.FU (h + 1) i)) + cb k (C.LV h) = sumTo C.n (fun i => cb k (LVc C.LV C.FU h i)) := by
  have := sumTo_turn C.n (fun i => cb k (LVc C.LV C.FU h i)) (fun i => cb k (LVc C.LV C.FU (h + 1) i)) h hlt (fun i _ hne => by simp only [LVc_set C.LV C.FU h hf i, if_neg hne])
  simp only [LVc_at, LVc_set C.LV C.FU h hf h, if_true, cb_nil] at this
  omega

theorem Mem.first (M : Mem C w h h vf ef fr R X) (hlt : h < C.n) (hf : C.FU h = true) : Mem C w h (h + 1) (C.LV h) (C.EL h) fr R X := by
  refine ⟨M.sm, M.lv, M.fu, fun i hi hn => M.lvo i hi (fun ⟨a, b⟩ => hn ⟨by omega, b⟩), M.lao, M.vdo, M.lvo h hlt (fun ⟨a, _⟩ => by omega), M.fro, M.ro, M.xo, fun k => ?_, M.big⟩
  have h1 := M.ap k
  have h2 := sum_next C k h hlt hf
  unfold Cf.tot at h1 ⊢
  omega

/-- The two stores. -/
theorem Mem.strike (M : Mem C w h (h + 1) vf ef fr R X) (hlt : h < C.n) (hf : C.FU h = true) : Mem C ((w.setCell ⟨C.gL, h, none⟩ nilS).setCell ⟨C.gB, h, none⟩ (.bool false)) (h + 1) (h + 1) vf ef fr R X := by
  have k1 : Kp (fun k => k = C.gL) w (w.setCell ⟨C.gL, h, none⟩ nilS) := Kp.setCell (X := fun k => k = C.gL) (Kp.refl _ w) (p := ⟨C.gL, h, none⟩) rfl _
  have k2 : Kp (fun k => k = C.gB) (w.setCell ⟨C.gL, h, none⟩ nilS) ((w.setCell ⟨C.gL, h, none⟩ nilS).setCell ⟨C.gB, h, none⟩ (.bool false)) := Kp.setCell (X := fun k => k = C.gB) (Kp.refl _ _) (p := ⟨C.gB, h, none⟩) rfl _
  have hk : Kp (fun k => k = C.gL ∨ k = C.gB) w ((w.setCell ⟨C.gL, h, none⟩ nilS).setCell ⟨C.gB, h, none⟩ (.bool false)) := (k1.mono (fun k _ e => Or.inl e)).trans (k2.mono (fun k _ e => Or.inr e))
  obtain ⟨c1, c2, c3, c4, c5⟩ := M.core hk (fun k hz => M.oth0 k (by
    rcases hz with rfl | rfl
    · rw [if_pos (rfl : C.gL = C.gL)]; omega
    · rw [if_pos (rfl : C.gB = C.gB)]; omega))
  have nz : ∀ (v : Value) (k : Nat), v.ownBlock = some k → cb k v ≤ cb k fr + cbs k X + C.oth k h.succ vf R → ¬ (k = C.gL ∨ k = C.gB) := fun v k hv hc hz => by
    have := M.far hv hc
    rcases hz with e | e
    · exact this.2.1 e
    · exact this.2.2 e
  refine ⟨M.sm.kept hk (fun e => by rcases e with e | e; exact M.gmL e; exact M.gmB e), ?_, ?_, c1, c2, c3, c4, hk.own M.fro (fun k hv => nz fr k hv (by omega)), c5, fun x hx => ?_, M.ap, Nat.le_trans M.big hk.size⟩
  · refine (k2.rowIs (M.lv.set h nilS) (fun e => M.gLB e)).congr (fun i hi => ?_)
    rw [LVc_set C.LV C.FU h hf i]
  · refine ((k1.rowIs M.fu (fun e => M.gLB e.symm)).set h (.bool false)).congr (fun i hi => ?_)
    rw [FUc_set C.FU h i]
    split <;> rfl
  · obtain ⟨n, xs, ho⟩ := M.xo x hx
    exact ⟨n, xs, hk.own ho (fun k hv => nz x k hv (by have := cbs_ge (k := k) hx; omega))⟩

theorem Mem.room {r fr1 : Value} {R1 : List Value} (M : Mem C w hr h vf ef fr R []) (D : RoomDone C.gm (.slice (some ⟨C.gL, 0, none⟩) C.n C.n) (.slice (some ⟨C.gB, 0, none⟩) C.n C.n) C.la C.ad fr R w w' r fr1 R1) : Mem C w' hr h vf ef fr1 R1 [r] ∧ w'.ownsRow 0 39 2 r 0 [] := by
  obtain ⟨hcase, hsm, hfro, hfb, hk⟩ := D
  obtain ⟨c1, c2, c3, c4, c5⟩ := M.core hk (fun k hz => M.oth0 k (by rw [if_pos hz]; omega))
  have hro : w'.ownsRow 0 39 2 r 0 [] := by
    rcases hcase with ⟨_, _, rfl⟩ | hR
    · exact ⟨rfl, Or.inl ⟨rfl, rfl⟩⟩
    · exact c5 r (by rw [hR]; simp)
  have hcnt : ∀ k, cbs k R1 + cbs k [r] = cbs k R := fun k => by
    rcases hcase with ⟨rfl, rfl, rfl⟩ | hR
    · simp [cbs, cb_nil]
    · rw [hR, cbs_append]
  refine ⟨⟨hsm, hk.rowIs M.lv (fun e => M.gmL e.symm), hk.rowIs M.fu (fun e => M.gmB e.symm), c1, c2, c3, c4, hfro, fun x hx => c5 x ?_, fun x hx => ⟨0, [], ?_⟩, fun k => ?_, Nat.le_trans M.big hk.size⟩, hro⟩
  · rcases hcase with ⟨_, rfl, _⟩ | hR
    · cases hx
    · rw [hR]; exact List.mem_append_left _ hx
  · rw [List.mem_singleton.1 hx]; exact hro
  · have h1 := M.ap k
    have h2 := hcnt k
    have h3 := cb_eq (k := k) hfb
    unfold Cf.tot at h1 ⊢
    simp only [cbs] at h1 h2 ⊢
    omega

theorem onto_kp {v v' : Value} (h : Onto w w' v v') : Kp (fun k => v.ownBlock = some k) w w' :=
  ⟨h.1.os, h.1.tape, h.1.output, h.1.size, fun k hk hz => h.1.block k hk (fun e => hz e.symm)⟩

/-- A row on the way has grown. -/
theorem Mem.grow {r v' : Value} {m : Nat} {ys : List Value} (M : Mem C w hr h vf ef fr R (r :: X)) (O : Onto w w' r v') (ho : w'.ownsRow 0 39 2 v' m ys) : Mem C w' hr h vf ef fr R (v' :: X) := by
  have hk := onto_kp O
  obtain ⟨c1, c2, c3, c4, c5⟩ := M.core hk (fun k hz => M.oth0 k (by simp only [cbs]; rw [cb_one hz]; omega))
  have far := fun k (hz : r.ownBlock = some k) => M.far (k := k) hz (by simp only [cbs]; omega)
  refine ⟨M.sm.kept hk (fun e => (far _ e).1 rfl), hk.rowIs M.lv (fun e => (far _ e).2.1 rfl), hk.rowIs M.fu (fun e => (far _ e).2.2 rfl), c1, c2, c3, c4, hk.own M.fro (fun k hv hz => ?_), c5, fun x hx => ?_, fun k => ?_, Nat.le_trans M.big hk.size⟩
  · have h1 := M.one k
    rw [Mem.tot_eq] at h1
    simp only [cbs] at h1
    rw [cb_one hv, cb_one hz] at h1
    omega
  · rcases List.mem_cons.1 hx with rfl | hx
    · exact ⟨m, ys, ho⟩
    · obtain ⟨n, xs, hox⟩ := M.xo x (List.mem_cons_of_mem _ hx)
      refine ⟨n, xs, hk.own hox (fun k hv hz => ?_)⟩
      have h1 := M.one k
      have h2 := cbs_ge (k := k) hx
      rw [Mem.tot_eq] at h1
      simp only [cbs] at h1
      rw [cb_one hz] at h1
      rw [cb_one hv] at h2
      omega
  · have h1 := M.ap k
    rcases O.2 with e | ⟨g, e, hg⟩
    · have h3 := cb_eq (k := k) e
      unfold Cf.tot at h1 ⊢
      simp only [cbs] at h1 ⊢
      omega
    · by_cases hkg : k = g
      · subst hkg
        have h4 := M.fresh hg
        have h5 := M.big
        have h6 : ¬ k < C.B := by omega
        rw [if_neg h6]
        have h7 := cb_one e
        unfold Cf.tot at h4 ⊢
        simp only [cbs] at h4 ⊢
        omega
      · have h7 : cb k v' = 0 := by
          unfold cb
          rw [e, if_neg (fun e' => hkg (Option.some.inj e').symm)]
        unfold Cf.tot at h1 ⊢
        simp only [cbs] at h1 ⊢
        omega

theorem trunc_block (v : Value) : (trunc v).ownBlock = v.ownBlock := by
  cases v with
  | slice a n c => cases a <;> rfl
  | _ => rfl
theorem trunc_own {base : Nat} {e : TypeId} {size : Nat} {v : Value} {n : Nat} {xs : List Value} (h : w.ownsRow base e size v n xs) : w.ownsRow base e size (trunc v) 0 [] := by
  refine ⟨by simp, ?_⟩
  rcases h.2 with ⟨rfl, _⟩ | ⟨g, cap, cur, rfl, hb, hg, h1, h2, h3, h4⟩
  · exact Or.inl ⟨rfl, rfl⟩
  · exact Or.inr ⟨g, cap, cur, rfl, hb, hg, Nat.zero_le _, h2, h3, by simp⟩

theorem Mem.outF (M : Mem C w hr h vf ef fr R X) : Mem C w hr h nilS [] fr R (trunc vf :: X) := by
  refine ⟨M.sm, M.lv, M.fu, M.lvo, M.lao, M.vdo, ⟨rfl, Or.inl ⟨rfl, rfl⟩⟩, M.fro, M.ro, fun x hx => ?_, fun k => ?_, M.big⟩
  · rcases List.mem_cons.1 hx with rfl | hx
    · exact ⟨0, [], trunc_own M.vfo⟩
    · exact M.xo x hx
  · have h1 := M.ap k
    have h2 := cb_eq (k := k) (trunc_block vf)
    have h3 := cb_nil k
    unfold Cf.tot at h1 ⊢
    simp only [cbs] at h1 ⊢
    omega
theorem Mem.dropF (M : Mem C w hr h vf ef fr R X) : Mem C w hr h nilS [] fr R X := by
  refine ⟨M.sm, M.lv, M.fu, M.lvo, M.lao, M.vdo, ⟨rfl, Or.inl ⟨rfl, rfl⟩⟩, M.fro, M.ro, M.xo, fun k => ?_, M.big⟩
  have h1 := M.ap k
  have h3 := cb_nil k
  unfold Cf.tot at h1 ⊢
  omega
theorem Mem.outL (M : Mem C w hr h vf ef fr R X) (hlt : h < C.n) (hf : C.FU h = true) : Mem C w hr (h + 1) vf ef fr R (trunc (C.LV h) :: X) := by
  refine ⟨M.sm, M.lv, M.fu, fun i hi hn => M.lvo i hi (fun ⟨a, b⟩ => hn ⟨by omega, b⟩), M.lao, M.vdo, M.vfo, M.fro, M.ro, fun x hx => ?_, fun k => ?_, M.big⟩
  · rcases List.mem_cons.1 hx with rfl | hx
    · exact ⟨0, [], trunc_own (M.lvo h hlt (fun ⟨a, _⟩ => by omega))⟩
    · exact M.xo x hx
  · have h1 := M.ap k
    have h2 := cb_eq (k := k) (trunc_block (C.LV h))
    have h3 := sum_next C k h hlt hf
    unfold Cf.tot at h1 ⊢
    simp only [cbs] at h1 ⊢
    omega
theorem Mem.inF {v : Value} {e : List E} (M : Mem C w hr h nilS [] fr R [v]) (ho : w.ownsRow 0 39 2 v e.length (flat e)) : Mem C w hr h v e fr R [] := by
  refine ⟨M.sm, M.lv, M.fu, M.lvo, M.lao, M.vdo, ho, M.fro, M.ro, fun x hx => by (cases hx), fun k => ?_, M.big⟩
  have h1 := M.ap k
  have h3 := cb_nil k
  unfold Cf.tot at h1 ⊢
  simp only [cbs] at h1 ⊢
  omega

/-- The header has grown by the row that is first on the way, and is stored. -/
theorem Mem.push {x fr' : Value} (M : Mem C w hr h vf ef fr R (x :: X)) (hx0 : w.ownsRow 0 39 2 x 0 []) (O : Onto w w' fr fr') (ho : w'.ownsRow 0 34 1 fr' (R.length + 1) (R ++ [x])) :
    Mem C (w'.setCell ⟨C.gm, 4, none⟩ fr') hr h vf ef fr' (R ++ [x]) X := by
  have k1 := onto_kp O
  have k2 : Kp (fun k => k = C.gm) w' (w'.setCell ⟨C.gm, 4, none⟩ fr') := Kp.setCell (X := fun k => k = C.gm) (Kp.refl _ w') (p := ⟨C.gm, 4, none⟩) rfl _
  have hk : Kp (fun k => fr.ownBlock = some k ∨ k = C.gm) w (w'.setCell ⟨C.gm, 4, none⟩ fr') := (k1.mono (fun k _ e => Or.inl e)).trans (k2.mono (fun k _ e => Or.inr e))
  obtain ⟨c1, c2, c3, c4, c5⟩ := M.core hk (fun k hz => M.oth0 k (by
    rcases hz with hz | hz
    · rw [cb_one hz]; omega
    · rw [if_pos hz]; omega))
  have far := fun k (hz : fr.ownBlock = some k) => M.far (k := k) hz (by omega)
  have xk : ∀ (y : Value) (n : Nat) (xs : List Value), y ∈ x :: X → w.ownsRow 0 39 2 y n xs → (w'.setCell ⟨C.gm, 4, none⟩ fr').ownsRow 0 39 2 y n xs := by
    intro y n xs hy hox
    refine hk.own hox (fun k hv hz => ?_)
    have h1 := M.one k
    have h2 := cbs_ge (k := k) hy
    rw [Mem.tot_eq] at h1
    rw [cb_one hv] at h2
    rcases hz with hz | hz
    · rw [cb_one hz] at h1; omega
    · rw [if_pos hz] at h1; omega
  have hfg : ∀ k, fr'.ownBlock = some k → k ≠ C.gm := by
    intro k hv e
    rcases O.2 with e2 | ⟨g, e2, hg⟩
    · exact (far k (e2 ▸ hv)).1 e
    · rw [e2] at hv
      have := Option.some.inj hv
      have := M.sm.lt
      omega
  have sm1 : Sm w' C.gm (.slice (some ⟨C.gL, 0, none⟩) C.n C.n) (.slice (some ⟨C.gB, 0, none⟩) C.n C.n) C.la C.ad fr := M.sm.kept k1 (fun e => (far _ e).1 rfl)
  refine ⟨sm1.free fr', hk.rowIs M.lv (fun e => ?_), hk.rowIs M.fu (fun e => ?_), c1, c2, c3, c4, ?_, fun r hr' => ?_, fun y hy => ?_, fun k => ?_, Nat.le_trans M.big hk.size⟩
  · rcases e with e | e
    · exact (far _ e).2.1 rfl
    · exact M.gmL e.symm
  · rcases e with e | e
    · exact (far _ e).2.2 rfl
    · exact M.gmB e.symm
  · have e : (R ++ [x]).length = R.length + 1 := by simp
    rw [e]
    exact k2.own ho (fun k hv => hfg k hv)
  · rcases List.mem_append.1 hr' with hr' | hr'
    · exact c5 r hr'
    · rw [List.mem_singleton.1 hr']
      exact xk x 0 [] (List.mem_cons_self ..) hx0
  · obtain ⟨n, xs, hox⟩ := M.xo y (List.mem_cons_of_mem _ hy)
    exact ⟨n, xs, xk y n xs (List.mem_cons_of_mem _ hy) hox⟩
  · have h1 := M.ap k
    rcases O.2 with e | ⟨g, e, hg⟩
    · have h3 := cb_eq (k := k) e
      unfold Cf.tot at h1 ⊢
      simp only [cbs, cbs_append] at h1 ⊢
      omega
    · by_cases hkg : k = g
      · subst hkg
        have h4 := M.fresh hg
        have h5 := M.big
        have h6 : ¬ k < C.B := by omega
        rw [if_neg h6]
        have h7 := cb_one e
        unfold Cf.tot at h4 ⊢
        simp only [cbs, cbs_append] at h4 ⊢
        omega
      · have h7 : cb k fr' = 0 := by
          unfold cb
          rw [e, if_neg (fun e' => hkg (Option.some.inj e').symm)]
        unfold Cf.tot at h1 ⊢
        simp only [cbs, cbs_append] at h1 ⊢
        omega
end
end Go.Proofs.Qxb6606351a
