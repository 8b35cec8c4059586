/-
  The plain laws: what the merge lists; how many rooms are free.
-/
import Derived.Test.Qxb6606351aInc
namespace Go.Proofs.Qxb6606351a
set_option linter.unusedVariables false
set_option linter.unusedSimpArgs false

/-- What a row of entries gives process p. -/
def lk : List E → Int → Option Int
  | [], _ => none
  | x :: r, p => if x.1 = p then some x.2 else lk r p
/-- The larger of two that may lack. -/
def cmb : Option Int → Option Int → Option Int
  | none, b => b
  | some a, none => some a
  | some a, some b => some (if a < b then b else a)
theorem cmb_none (a : Option Int) : cmb a none = a := by cases a <;> rfl
theorem none_cmb (a : Option Int) : cmb none a = a := rfl

def Srt (es : List E) : Prop := es.Pairwise (fun x y => x.1 < y.1)

theorem srt_of_inc (es : List E) (h : Inc es) : Srt es := by
  induction es with
  | nil => exact List.Pairwise.nil
  | cons x r ih =>
    have hr : Inc r := fun i hi => by
      have := h (i + 1) (by simp; omega)
      simpa [List.getD] using this
    have sr := ih hr
    refine List.Pairwise.cons (fun y hy => ?_) sr
    cases r with
    | nil => cases hy
    | cons z r' =>
      have hxz : x.1 < z.1 := by
        have := h 0 (by simp)
        simpa [List.getD] using this
      rcases List.mem_cons.1 hy with rfl | hy
      · exact hxz
      · have := (List.pairwise_cons.1 sr).1 y hy
        omega

theorem srt_get {es : List E} (h : Srt es) {i j : Nat} (hij : i < j) (hj : j < es.length) : (es.getD i (0, 0)).1 < (es.getD j (0, 0)).1 := by
  have hi : i < es.length := by omega
  have := (List.pairwise_iff_getElem.1 h) i j hi hj hij
  simpa [List.getD, hi, hj] using this

theorem lk_above {es : List E} {p : Int} (h : ∀ z ∈ es, p < z.1) : lk es p = none := by
  induction es with
  | nil => rfl
  | cons x r ih =>
    have h1 := h x (List.mem_cons_self ..)
    rw [lk, if_neg (by omega)]
    exact ih (fun z hz => h z (List.mem_cons_of_mem _ hz))

theorem lk_none {es : List E} {p : Int} (h : ∀ i, i < es.length → (es.getD i (0, 0)).1 ≠ p) : lk es p = none := by
  induction es with
  | nil => rfl
  | cons x r ih =>
    have h1 := h 0 (by simp)
    rw [lk, if_neg (by simpa [List.getD] using h1)]
    refine ih (fun i hi => ?_)
    have := h (i + 1) (by simp; omega)
    simpa [List.getD] using this

theorem lk_at {es : List E} {i : Nat} (h : Srt es) (hi : i < es.length) : lk es (es.getD i (0, 0)).1 = some (es.getD i (0, 0)).2 := by
  induction es generalizing i with
  | nil => simp at hi
  | cons x r ih =>
    cases i with
    | zero => simp [lk, List.getD]
    | succ i =>
      have hi' : i < r.length := by simpa using hi
      have e : (x :: r).getD (i + 1) (0, 0) = r.getD i (0, 0) := by simp [List.getD]
      have hx := (List.pairwise_cons.1 h).1 (r.getD i (0, 0)) (by simp [List.getD, hi'])
      rw [e, lk, if_neg (by omega)]
      exact ih (List.pairwise_cons.1 h).2 hi'

theorem lk_find {es : List E} {p : Int} {i : Nat} (h : Srt es) (hi : i < es.length) (hp : (es.getD i (0, 0)).1 = p) : lk es p = some (es.getD i (0, 0)).2 := by
  rw [← hp]; exact lk_at h hi

theorem lk_miss {es : List E} {p : Int} {l : Nat} (h : Srt es) (h1 : ∀ j, j < l → j < es.length → (es.getD j (0, 0)).1 < p) (h2 : l < es.length → p < (es.getD l (0, 0)).1) : lk es p = none := by
  refine lk_none (fun i hi e => ?_)
  by_cases hil : i < l
  · have := h1 i hil hi; omega
  · have hl : l < es.length := by omega
    have h3 := h2 hl
    by_cases e2 : i = l
    · subst e2; omega
    · have := srt_get h (show l < i by omega) hi
      omega

theorem mrg_above {a b : List E} {q : Int} (ha : ∀ z ∈ a, q < z.1) (hb : ∀ z ∈ b, q < z.1) : ∀ z ∈ mrg a b, q < z.1 := by
  fun_induction mrg a b with
  | case1 b => exact hb
  | case2 x a => exact ha
  | case3 x a y b h ih =>
    intro z hz
    rcases List.mem_cons.1 hz with rfl | hz
    · exact ha _ (List.mem_cons_self ..)
    · exact ih (fun z hz => ha z (List.mem_cons_of_mem _ hz)) hb z hz
  | case4 x a y b h1 h2 ih =>
    intro z hz
    rcases List.mem_cons.1 hz with rfl | hz
    · exact hb _ (List.mem_cons_self ..)
    · exact ih ha (fun z hz => hb z (List.mem_cons_of_mem _ hz)) z hz
  | case5 x a y b h1 h2 ih =>
    intro z hz
    rcases List.mem_cons.1 hz with rfl | hz
    · exact ha x (List.mem_cons_self ..)
    · exact ih (fun z hz => ha z (List.mem_cons_of_mem _ hz)) (fun z hz => hb z (List.mem_cons_of_mem _ hz)) z hz

theorem srt_mrg {a b : List E} (ha : Srt a) (hb : Srt b) : Srt (mrg a b) := by
  fun_induction mrg a b with
  | case1 b => exact hb
  | case2 x a => exact ha
  | case3 x a y b h ih =>
    obtain ⟨p1, p2⟩ := List.pairwise_cons.1 ha
    obtain ⟨q1, q2⟩ := List.pairwise_cons.1 hb
    refine List.Pairwise.cons (mrg_above p1 (fun z hz => ?_)) (ih p2 hb)
    rcases List.mem_cons.1 hz with rfl | hz
    · exact h
    · have := q1 z hz; omega
  | case4 x a y b h1 h2 ih =>
    obtain ⟨p1, p2⟩ := List.pairwise_cons.1 ha
    obtain ⟨q1, q2⟩ := List.pairwise_cons.1 hb
    refine List.Pairwise.cons (mrg_above (fun z hz => ?_) q1) (ih ha q2)
    rcases List.mem_cons.1 hz with rfl | hz
    · exact h2
    · have := p1 z hz; omega
  | case5 x a y b h1 h2 ih =>
    obtain ⟨p1, p2⟩ := List.pairwise_cons.1 ha
    obtain ⟨q1, q2⟩ := List.pairwise_cons.1 hb
    refine List.Pairwise.cons (mrg_above (fun z hz => p1 z hz) (fun z hz => ?_)) (ih p2 q2)
    have := q1 z hz
    show x.1 < z.1
    omega

theorem lk_mrg {a b : List E} (ha : Srt a) (hb : Srt b) (p : Int) : lk (mrg a b) p = cmb (lk a p) (lk b p) := by
  fun_induction mrg a b with
  | case1 b => rfl
  | case2 x a => rw [show lk [] p = none from rfl, cmb_none]
  | case3 x a y b h ih =>
    obtain ⟨p1, p2⟩ := List.pairwise_cons.1 ha
    obtain ⟨q1, q2⟩ := List.pairwise_cons.1 hb
    rw [lk, lk, ih p2 hb]
    by_cases e : x.1 = p
    · rw [if_pos e, if_pos e, lk_above (es := y :: b) (fun z hz => ?_), cmb_none]
      rcases List.mem_cons.1 hz with rfl | hz
      · omega
      · have := q1 z hz; omega
    · rw [if_neg e, if_neg e]
  | case4 x a y b h1 h2 ih =>
    obtain ⟨p1, p2⟩ := List.pairwise_cons.1 ha
    obtain ⟨q1, q2⟩ := List.pairwise_cons.1 hb
    rw [show lk (y :: mrg (x :: a) b) p = if y.1 = p then some y.2 else lk (mrg (x :: a) b) p from rfl, show lk (y :: b) p = if y.1 = p then some y.2 else lk b p from rfl, ih ha q2]
    by_cases e : y.1 = p
    · rw [if_pos e, if_pos e, lk_above (es := x :: a) (fun z hz => ?_), none_cmb]
      rcases List.mem_cons.1 hz with rfl | hz
      · omega
      · have := p1 z hz; omega
    · rw [if_neg e, if_neg e]
  | case5 x a y b h1 h2 ih =>
    obtain ⟨p1, p2⟩ := List.pairwise_cons.1 ha
    obtain ⟨q1, q2⟩ := List.pairwise_cons.1 hb
    rw [lk, lk, lk, ih p2 q2]
    by_cases e : x.1 = p
    · have e2 : y.1 = p := by omega
      rw [if_pos e, if_pos e, if_pos e2]; rfl
    · have e2 : ¬ y.1 = p := by omega
      rw [if_neg e, if_neg e, if_neg e2]

theorem fld_nil (FU : Nat → Bool) (EL : Nat → List E) (h : Nat) (hf : fnd FU h = false) : fld FU EL h = [] := by
  induction h with
  | zero => rfl
  | succ h ih =>
    rw [fnd] at hf
    cases hu : FU h with
    | true => rw [hu] at hf; simp at hf
    | false =>
      rw [hu] at hf
      rw [fld, hu]
      simp only [Bool.false_eq_true, if_false] at hf ⊢
      exact ih hf

theorem srt_fld (FU : Nat → Bool) (EL : Nat → List E) (h : Nat) (hs : ∀ i, i < h → FU i = true → Srt (EL i)) : Srt (fld FU EL h) := by
  induction h with
  | zero => exact List.Pairwise.nil
  | succ h ih =>
    have h1 := ih (fun i hi => hs i (by omega))
    rw [fld]
    by_cases hu : FU h = true
    · rw [if_pos hu]
      have h2 := hs h (by omega) hu
      split
      · exact srt_mrg h1 h2
      · exact h2
    · rw [if_neg hu]; exact h1

theorem lk_fld (FU : Nat → Bool) (EL : Nat → List E) (h : Nat) (hs : ∀ i, i < h + 1 → FU i = true → Srt (EL i)) (p : Int) : lk (fld FU EL (h + 1)) p = if FU h = true then cmb (lk (fld FU EL h) p) (lk (EL h) p) else lk (fld FU EL h) p := by
  rw [fld]
  by_cases hu : FU h = true
  · rw [if_pos hu, if_pos hu]
    cases hf : fnd FU h with
    | true =>
      rw [if_pos rfl]
      exact lk_mrg (srt_fld FU EL h (fun i hi => hs i (by omega))) (hs h (by omega) hu) p
    | false =>
      rw [if_neg (by simp), fld_nil FU EL h hf]
      rfl
  · rw [if_neg hu, if_neg hu]

theorem cmb_some_left {a b : Option Int} (h : a.isSome = true) : (cmb a b).isSome = true := by cases a <;> cases b <;> simp_all [cmb]
theorem cmb_some_right {a b : Option Int} (h : b.isSome = true) : (cmb a b).isSome = true := by cases a <;> cases b <;> simp_all [cmb]

theorem lk_level (FU : Nat → Bool) (EL : Nat → List E) (n : Nat) (hs : ∀ i, i < n → FU i = true → Srt (EL i)) (p : Int) (h : Nat) (hh : h < n) (hu : FU h = true) (hl : (lk (EL h) p).isSome = true) : (lk (fld FU EL n) p).isSome = true := by
  induction n with
  | zero => omega
  | succ n ih =>
    rw [lk_fld FU EL n hs p]
    by_cases e : h = n
    · subst e
      rw [if_pos hu]
      exact cmb_some_right hl
    · have h1 := ih (fun i hi => hs i (by omega)) (by omega)
      split
      · exact cmb_some_left h1
      · exact h1

/-- The result. -/
def resOf (FU : Nat → Bool) (EL : Nat → List E) (n : Nat) (el : List E) : List E := if fnd FU n = true then mrg (fld FU EL n) el else el
theorem srt_res (FU : Nat → Bool) (EL : Nat → List E) (n : Nat) (el : List E) (hs : ∀ i, i < n → FU i = true → Srt (EL i)) (hl : Srt el) : Srt (resOf FU EL n el) := by
  unfold resOf
  split
  · exact srt_mrg (srt_fld FU EL n hs) hl
  · exact hl
theorem lk_res (FU : Nat → Bool) (EL : Nat → List E) (n : Nat) (el : List E) (hs : ∀ i, i < n → FU i = true → Srt (EL i)) (hl : Srt el) (p : Int) : lk (resOf FU EL n el) p = cmb (lk (fld FU EL n) p) (lk el p) := by
  unfold resOf
  cases hf : fnd FU n with
  | true => rw [if_pos rfl]; exact lk_mrg (srt_fld FU EL n hs) hl p
  | false => rw [if_neg (by simp), fld_nil FU EL n hf]; rfl

/-! ### The rooms -/
def kk (FU : Nat → Bool) : Nat → Nat
  | 0 => 0
  | h + 1 => if FU h then kk FU h + 1 else kk FU h
def lw (FU : Nat → Bool) : Nat → Int
  | 0 => -1
  | h + 1 => if FU h then (if lw FU h < 0 then (h : Int) else lw FU h) else lw FU h
theorem kk_le (FU : Nat → Bool) (h : Nat) : kk FU h ≤ h := by
  induction h with
  | zero => exact Nat.le_refl _
  | succ h ih => rw [kk]; split <;> omega

theorem rooms (FU : Nat → Bool) (f h : Nat) :
    (lw FU h = -1 ∧ kk FU h = 0 ∧ fnd FU h = false ∧ ownF FU h = false ∧ frm FU f h = f) ∨
    (0 ≤ lw FU h ∧ lw FU h < h ∧ kk FU h = 1 ∧ fnd FU h = true ∧ ownF FU h = decide (0 < lw FU h) ∧ frm FU f h = f) ∨
    (0 ≤ lw FU h ∧ lw FU h < h ∧ 2 ≤ kk FU h ∧ fnd FU h = true ∧ ownF FU h = true ∧ frm FU f h + 1 = (if 0 < f then f + (if 0 < lw FU h then 1 else 0) + kk FU h - 1 else (if 0 < lw FU h then 1 else 0) + kk FU h)) := by
  induction h with
  | zero => exact Or.inl ⟨rfl, rfl, rfl, rfl, rfl⟩
  | succ h ih =>
    cases hu : FU h with
    | false =>
      have e1 : lw FU (h + 1) = lw FU h := by simp [lw, hu]
      have e2 : kk FU (h + 1) = kk FU h := by simp [kk, hu]
      have e3 : fnd FU (h + 1) = fnd FU h := by simp [fnd, hu]
      have e4 : ownF FU (h + 1) = ownF FU h := by simp [ownF, hu]
      have e5 : frm FU f (h + 1) = frm FU f h := by simp [frm, hu]
      rw [e1, e2, e3, e4, e5]
      rcases ih with ih | ⟨a, b, c⟩ | ⟨a, b, c⟩
      · exact Or.inl ih
      · exact Or.inr (Or.inl ⟨a, by omega, c⟩)
      · exact Or.inr (Or.inr ⟨a, by omega, c⟩)
    | true =>
      have e2 : kk FU (h + 1) = kk FU h + 1 := by simp [kk, hu]
      have e3 : fnd FU (h + 1) = true := by simp [fnd, hu]
      rcases ih with ⟨a1, a2, a3, a4, a5⟩ | ⟨a1, a2, a3, a4, a5, a6⟩ | ⟨a1, a2, a3, a4, a5, a6⟩
      · have e1 : lw FU (h + 1) = h := by simp [lw, hu, a1]
        have e4 : ownF FU (h + 1) = decide (0 < h) := by simp [ownF, hu, a3]
        have e5 : frm FU f (h + 1) = f := by simp [frm, hu, a3, a5]
        refine Or.inr (Or.inl ⟨by omega, by omega, by omega, e3, ?_, e5⟩)
        rw [e4, e1]
        simp
      · have e1 : lw FU (h + 1) = lw FU h := by
          simp only [lw, hu, if_true]
          rw [if_neg (by omega)]
        have e4 : ownF FU (h + 1) = true := by simp [ownF, hu, a4]
        have e5 : frm FU f (h + 1) = (f - 1) + (if decide (0 < lw FU h) = true then 1 else 0) + 1 := by
          simp only [frm, hu, a4, a5, a6, if_true]
        refine Or.inr (Or.inr ⟨by omega, by omega, by omega, e3, e4, ?_⟩)
        rw [e5, e1, e2, a3]
        by_cases hl : 0 < lw FU h
        · simp only [hl, decide_true, if_true]
          split <;> omega
        · simp only [hl, decide_false, if_false, Bool.false_eq_true]
          split <;> omega
      · have e1 : lw FU (h + 1) = lw FU h := by
          simp only [lw, hu, if_true]
          rw [if_neg (by omega)]
        have e4 : ownF FU (h + 1) = true := by simp [ownF, hu, a4]
        have e5 : frm FU f (h + 1) = (frm FU f h - 1) + 1 + 1 := by
          simp only [frm, hu, a4, a5, if_true]
        refine Or.inr (Or.inr ⟨by omega, by omega, by omega, e3, e4, ?_⟩)
        rw [e5, e1, e2]
        by_cases hl : 0 < lw FU h
        · simp only [hl, if_true] at a6 ⊢
          split at a6 <;> rename_i hf
          · rw [if_pos hf]; omega
          · rw [if_neg hf]; omega
        · simp only [hl, if_false] at a6 ⊢
          split at a6 <;> rename_i hf
          · rw [if_pos hf]; omega
          · rw [if_neg hf]; omega
end Go.Proofs.Qxb6606351a
