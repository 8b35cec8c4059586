/-
  Decimal digits: plain mathematics, no Go in sight.
-/
namespace Go.Proofs.Qxb6606318a

/-- The number that a row of digits (as bytes, the greatest first) spells. -/
def val (ds : List Int) : Int := ds.foldl (fun a d => a * 10 + (d - 48)) 0

theorem foldl_from (ds : List Int) (a : Int) : ds.foldl (fun a d => a * 10 + (d - 48)) a = a * 10 ^ ds.length + val ds := by
  induction ds generalizing a with
  | nil => simp [val]
  | cons d ds ih =>
    unfold val
    simp only [List.foldl_cons, List.length_cons]
    rw [ih (a * 10 + (d - 48)), ih (0 * 10 + (d - 48)), Int.pow_succ]
    rw [Int.add_mul, Int.add_mul]
    have e : a * 10 * 10 ^ ds.length = a * (10 ^ ds.length * 10) := by rw [Int.mul_assoc, Int.mul_comm 10]
    rw [e]
    simp
    omega

theorem val_nil : val [] = 0 := rfl
theorem val_cons (d : Int) (ds : List Int) : val (d :: ds) = (d - 48) * 10 ^ ds.length + val ds := by
  have := foldl_from ds (d - 48)
  unfold val at *
  simp only [List.foldl_cons]
  rw [← this]
  simp
theorem val_snoc (ds : List Int) (d : Int) : val (ds ++ [d]) = val ds * 10 + (d - 48) := by simp [val]

/-- Every byte is a decimal digit. -/
def Digs (ds : List Int) : Prop := ∀ d ∈ ds, 48 ≤ d ∧ d ≤ 57

theorem val_nonneg (ds : List Int) (h : Digs ds) : 0 ≤ val ds := by
  induction ds with
  | nil => simp [val]
  | cons d ds ih =>
    rw [val_cons]
    have h1 := ih (fun x hx => h x (List.mem_cons_of_mem _ hx))
    have h2 := h d List.mem_cons_self
    have h3 : 0 ≤ (d - 48) * 10 ^ ds.length := Int.mul_nonneg (by omega) (Int.pow_nonneg (by omega))
    omega

/-- The digits of a number below 2^63: what the reader of integers wants. -/
structure Dec (ds : List Int) (v : Int) : Prop where
  digs : Digs ds
  eq : val ds = v
  pos : 0 < ds.length
  len : ds.length ≤ 19
  lead : 1 < ds.length → ds.getD 0 0 ≠ 48

/-- What holds of the digits behind some rounds of the division loop: 'u' is left, 'rs' are the low digits. -/
structure Mid (rs : List Int) (u v : Int) : Prop where
  digs : Digs rs
  nonneg : 0 ≤ u
  eq : u * 10 ^ rs.length + val rs = v
  more : 0 < rs.length → 0 < u

theorem Mid.start (v : Int) (h : 0 ≤ v) : Mid [] v v := ⟨fun d hd => by simp at hd, h, by simp [val], fun h => by simp at h⟩

theorem pow_mono (n : Nat) (h : 19 ≤ n) : (10000000000000000000 : Int) ≤ 10 ^ n := by
  have h1 : 10 ^ 19 ≤ 10 ^ n := Nat.pow_le_pow_right (by omega) h
  have h2 : ((10 ^ 19 : Nat) : Int) ≤ ((10 ^ n : Nat) : Int) := Int.ofNat_le.2 h1
  rw [Int.natCast_pow, Int.natCast_pow] at h2
  exact h2

theorem Mid.len {rs : List Int} {u v : Int} (h : Mid rs u v) (hv : v ≤ 9223372036854775807) : rs.length ≤ 18 := by
  by_cases h0 : rs.length ≤ 18
  · exact h0
  · exfalso
    have hu := h.more (by omega)
    have hp := pow_mono rs.length (by omega)
    have hn := val_nonneg rs h.digs
    have he := h.eq
    have h1 : 1 * 10 ^ rs.length ≤ u * 10 ^ rs.length := Int.mul_le_mul_of_nonneg_right (by omega) (by omega)
    omega

theorem Mid.le {rs : List Int} {u v : Int} (h : Mid rs u v) : u ≤ v := by
  have hn := val_nonneg rs h.digs
  have he := h.eq
  have hp : (0 : Int) < 10 ^ rs.length := Int.pow_pos (by omega)
  have h1 : u * 1 ≤ u * 10 ^ rs.length := Int.mul_le_mul_of_nonneg_left (by omega) h.nonneg
  omega

theorem Mid.step {rs : List Int} {u v : Int} (h : Mid rs u v) : Digs ((48 + u % 10) :: rs) ∧ (u / 10) * 10 ^ (rs.length + 1) + val ((48 + u % 10) :: rs) = v := by
  have hn := h.nonneg
  refine ⟨?_, ?_⟩
  · intro d hd
    rcases List.mem_cons.1 hd with rfl | hd
    · omega
    · exact h.digs d hd
  · rw [val_cons, ← h.eq, Int.pow_succ]
    have e : u * 10 ^ rs.length = (u / 10) * (10 ^ rs.length * 10) + (u % 10) * 10 ^ rs.length := by
      rw [Int.mul_comm (10 ^ rs.length) 10, ← Int.mul_assoc, ← Int.add_mul]
      congr 1
      omega
    rw [e]
    have e2 : 48 + u % 10 - 48 = u % 10 := by omega
    rw [e2]
    omega

theorem Mid.next {rs : List Int} {u v : Int} (h : Mid rs u v) (hu : u / 10 ≠ 0) : Mid ((48 + u % 10) :: rs) (u / 10) v := by
  have hn := h.nonneg
  obtain ⟨h1, h2⟩ := h.step
  exact ⟨h1, by omega, by simpa using h2, fun _ => by omega⟩

theorem Mid.done {rs : List Int} {u v : Int} (h : Mid rs u v) (hu : u / 10 = 0) (hv : v ≤ 9223372036854775807) : Dec ((48 + u % 10) :: rs) v := by
  have hn := h.nonneg
  have hl := h.len hv
  obtain ⟨h1, h2⟩ := h.step
  refine ⟨h1, ?_, by simp, by simp; omega, fun h3 => ?_⟩
  · rw [hu] at h2; simpa using h2
  · have := h.more (by simp at h3; omega)
    simp
    omega

/-- The value of the first k digits, digit by digit; no step leaves the range of int64. -/
theorem val_take_succ (ds : List Int) (k : Nat) (h : k < ds.length) : val (ds.take (k + 1)) = val (ds.take k) * 10 + (ds.getD k 0 - 48) := by
  rw [List.take_succ_eq_append_getElem h, val_snoc]
  simp [List.getD, h]

theorem val_take_le (ds : List Int) (k : Nat) (h : Digs ds) : val (ds.take k) ≤ val ds := by
  have e : val ds = val (ds.take k) * 10 ^ (ds.drop k).length + val (ds.drop k) := by
    have h1 := foldl_from (ds.drop k) (val (ds.take k))
    rw [← h1]
    unfold val
    rw [← List.foldl_append, List.take_append_drop]
  have h1 := val_nonneg (ds.drop k) (fun d hd => h d (List.mem_of_mem_drop hd))
  have h2 := val_nonneg (ds.take k) (fun d hd => h d (List.mem_of_mem_take hd))
  have h3 : val (ds.take k) * 1 ≤ val (ds.take k) * 10 ^ (ds.drop k).length := Int.mul_le_mul_of_nonneg_left (by have : (0 : Int) < 10 ^ (ds.drop k).length := Int.pow_pos (by omega); omega) h2
  omega

theorem digs_getD (ds : List Int) (h : Digs ds) (k : Nat) (hk : k < ds.length) : 48 ≤ ds.getD k 0 ∧ ds.getD k 0 ≤ 57 := by
  have e : ds.getD k 0 = ds[k] := by simp [List.getD, hk]
  rw [e]
  exact h _ (List.getElem_mem hk)

end Go.Proofs.Qxb6606318a
