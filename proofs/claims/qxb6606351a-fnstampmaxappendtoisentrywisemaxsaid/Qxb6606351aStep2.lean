/-
  The fold's last steps, on the memory alone.
-/
import Derived.Test.Qxb6606351aStep
namespace Go.Proofs.Qxb6606351a
set_option linter.unusedVariables false
set_option linter.unusedSimpArgs false

/-- The fold without its dst; without its last. -/
def Cf.noD (C : Cf) : Cf := { C with vd := nilS, d := 0, xs := [] }
def Cf.noL (C : Cf) : Cf := { C with vd := nilS, d := 0, xs := [], la := nilS, el := [], ad := .int .i64 0 }

theorem nil_own (w : World) (e : TypeId) (size : Nat) : w.ownsRow 0 e size nilS 0 [] := ⟨by simp, Or.inl ⟨rfl, rfl⟩⟩

section
variable {C : Cf} {w w' : World} {hr h : Nat} {vf : Value} {ef : List E} {fr : Value} {R X : List Value}

theorem Mem.outD (M : Mem C w hr h vf ef fr R X) : Mem C.noD w hr h vf ef fr R (C.vd :: X) := by
  refine ⟨M.sm, M.lv, M.fu, M.lvo, M.lao, nil_own _ _ _, M.vfo, M.fro, M.ro, fun x hx => ?_, fun k => ?_, M.big⟩
  · rcases List.mem_cons.1 hx with rfl | hx
    · exact ⟨_, _, M.vdo⟩
    · exact M.xo x hx
  · have h1 := M.ap k
    have h3 := cb_nil k
    show (if k = C.gm then 1 else 0) + (if k = C.gL then 1 else 0) + (if k = C.gB then 1 else 0) + cb k C.la + cb k nilS + cb k vf + cb k fr + sumTo C.n (fun i => cb k (LVc C.LV C.FU h i)) + cbs k R + (cb k C.vd + cbs k X) ≤ if k < C.B then 0 else 1
    unfold Cf.tot at h1
    omega

theorem Mem.laX {r : Value} {k : Nat} (M : Mem C w hr h vf ef fr R (r :: X)) (hv : C.la.ownBlock = some k) : r.ownBlock ≠ some k := by
  intro e
  have h1 := M.one k
  unfold Cf.tot at h1
  simp only [cbs] at h1
  rw [cb_one hv, cb_one e] at h1
  omega

/-- The two last stores. -/
theorem Mem.stores (M : Mem C.noD w hr h vf ef fr R X) : Mem C.noL ((w.setCell ⟨C.gm, 2, none⟩ nilS).setCell ⟨C.gm, 3, none⟩ (.int .i64 0)) hr h vf ef fr R X := by
  have hk : Kp (fun k => k = C.gm) w ((w.setCell ⟨C.gm, 2, none⟩ nilS).setCell ⟨C.gm, 3, none⟩ (.int .i64 0)) :=
    Kp.setCell (X := fun k => k = C.gm) (Kp.setCell (X := fun k => k = C.gm) (Kp.refl _ w) (p := ⟨C.gm, 2, none⟩) rfl _) (p := ⟨C.gm, 3, none⟩) rfl _
  obtain ⟨c1, c2, c3, c4, c5⟩ := M.core hk (fun k hz => M.oth0 k (by
    have e : (if k = C.noD.gm then 1 else 0) = 1 := if_pos hz
    rw [e]; omega))
  have nz : ∀ (v : Value) (k : Nat), v.ownBlock = some k → cb k v ≤ cb k fr + cbs k X + C.noD.oth k h vf R → ¬ k = C.gm := fun v k hv hc hz => (M.far hv hc).1 hz
  refine ⟨(M.sm.last nilS).added (.int .i64 0), hk.rowIs M.lv (fun e => M.gmL e.symm), hk.rowIs M.fu (fun e => M.gmB e.symm), c1, nil_own _ _ _, nil_own _ _ _, c4, hk.own M.fro (fun k hv => nz fr k hv (by omega)), c5, fun x hx => ?_, fun k => ?_, Nat.le_trans M.big hk.size⟩
  · obtain ⟨n, xs, ho⟩ := M.xo x hx
    exact ⟨n, xs, hk.own ho (fun k hv => nz x k hv (by have := cbs_ge (k := k) hx; omega))⟩
  · have h1 := M.ap k
    have h3 := cb_nil k
    have h4 : (if k = C.gm then 1 else 0) + (if k = C.gL then 1 else 0) + (if k = C.gB then 1 else 0) + cb k C.la + cb k nilS + cb k vf + cb k fr + sumTo C.n (fun i => cb k (LVc C.LV C.FU h i)) + cbs k R + cbs k X ≤ if k < C.B then 0 else 1 := h1
    show (if k = C.gm then 1 else 0) + (if k = C.gL then 1 else 0) + (if k = C.gB then 1 else 0) + cb k nilS + cb k nilS + cb k vf + cb k fr + sumTo C.n (fun i => cb k (LVc C.LV C.FU h i)) + cbs k R + cbs k X ≤ if k < C.B then 0 else 1
    omega

theorem Mem.storesOwn {y : Value} {n : Nat} {xs : List Value} (M : Mem C.noD w hr h vf ef fr R X) (hy : y ∈ X) (ho : w.ownsRow 0 39 2 y n xs) : ((w.setCell ⟨C.gm, 2, none⟩ nilS).setCell ⟨C.gm, 3, none⟩ (.int .i64 0)).ownsRow 0 39 2 y n xs := by
  have hk : Kp (fun k => k = C.gm) w ((w.setCell ⟨C.gm, 2, none⟩ nilS).setCell ⟨C.gm, 3, none⟩ (.int .i64 0)) :=
    Kp.setCell (X := fun k => k = C.gm) (Kp.setCell (X := fun k => k = C.gm) (Kp.refl _ w) (p := ⟨C.gm, 2, none⟩) rfl _) (p := ⟨C.gm, 3, none⟩) rfl _
  exact hk.own ho (fun k hv hz => (M.far hv (by have := cbs_ge (k := k) hy; omega)).1 hz)
end
end Go.Proofs.Qxb6606351a
