/-
  The stream of frames, plain: no Go in sight.
-/
import Derived.Test.Qxb6606225aDoorApfx
namespace Go.Proofs.Qxb6606225aDoor
set_option linter.unusedVariables false
set_option linter.unusedSimpArgs false

/-- The four bytes ahead of a body of n bytes (n below two to the 24th). -/
def pre4 (n : Nat) : List Int := [(n : Int) % 256, (n : Int) / 256 % 256, (n : Int) / 65536, (n : Int) / 16777216]

/-- The stream. -/
def enc : List (List Int) → List Int
  | [] => []
  | z :: r => pre4 z.length ++ z ++ enc r

theorem enc_append (a b : List (List Int)) : enc (a ++ b) = enc a ++ enc b := by
  induction a with
  | nil => rfl
  | cons z r ih => simp only [List.cons_append, enc, ih, List.append_assoc]

theorem take_succ_getD (L : List (List Int)) (k : Nat) (h : k < L.length) : L.take (k + 1) = L.take k ++ [L.getD k []] := by
  rw [List.take_add_one, List.getElem?_eq_getElem h]
  simp [List.getD, h]

theorem enc_take_succ (L : List (List Int)) (k : Nat) (h : k < L.length) : enc (L.take (k + 1)) = enc (L.take k) ++ (pre4 (L.getD k []).length ++ L.getD k []) := by
  rw [take_succ_getD L k h, enc_append]
  simp [enc]

theorem enc_take_length (L : List (List Int)) (k : Nat) (h : k < L.length) : (enc (L.take (k + 1))).length = (enc (L.take k)).length + 4 + (L.getD k []).length := by
  rw [enc_take_succ L k h]
  simp [pre4]
  omega

theorem enc_split (L : List (List Int)) (k : Nat) (h : k < L.length) : enc L = enc (L.take k) ++ (pre4 (L.getD k []).length ++ (L.getD k [] ++ enc (L.drop (k + 1)))) := by
  have e : L = L.take (k + 1) ++ L.drop (k + 1) := (List.take_append_drop _ _).symm
  have := congrArg enc e
  rw [enc_append, enc_take_succ L k h] at this
  rw [this]
  simp only [List.append_assoc]

theorem getD_right (a b : List Int) (j : Nat) : (a ++ b).getD (a.length + j) 0 = b.getD j 0 := by
  rw [List.getD, List.getElem?_append_right (by omega), List.getD, show a.length + j - a.length = j from by omega]

theorem pre4_getD (n : Nat) (b : List Int) (hn : n ≤ 1048576) : (pre4 n ++ b).getD 0 0 + (pre4 n ++ b).getD 1 0 * 256 + (pre4 n ++ b).getD 2 0 * 65536 + (pre4 n ++ b).getD 3 0 * 16777216 = n := by
  have e0 : (pre4 n ++ b).getD 0 0 = (n : Int) % 256 := rfl
  have e1 : (pre4 n ++ b).getD 1 0 = (n : Int) / 256 % 256 := rfl
  have e2 : (pre4 n ++ b).getD 2 0 = (n : Int) / 65536 := rfl
  have e3 : (pre4 n ++ b).getD 3 0 = (n : Int) / 16777216 := rfl
  rw [e0, e1, e2, e3]
  omega

/-- The bytes of rows. -/
def Bytes (L : List (List Int)) : Prop := ∀ z ∈ L, ∀ x ∈ z, 0 ≤ x ∧ x ≤ 255

theorem enc_bytes (L : List (List Int)) (hb : Bytes L) (hs : ∀ z ∈ L, z.length ≤ 1048576) : ∀ x ∈ enc L, 0 ≤ x ∧ x ≤ 255 := by
  induction L with
  | nil => intro x hx; cases hx
  | cons z r ih =>
    intro x hx
    simp only [enc, List.mem_append] at hx
    have hz := hs z (List.mem_cons_self ..)
    rcases hx with (hx | hx) | hx
    · simp only [pre4, List.mem_cons, List.not_mem_nil, or_false] at hx
      rcases hx with rfl | rfl | rfl | rfl <;> omega
    · exact hb z (List.mem_cons_self ..) x hx
    · exact ih (fun z hz => hb z (List.mem_cons_of_mem _ hz)) (fun z hz => hs z (List.mem_cons_of_mem _ hz)) x hx

theorem bytes_getD (S : List Int) (h : ∀ x ∈ S, 0 ≤ x ∧ x ≤ 255) (j : Nat) : 0 ≤ S.getD j 0 ∧ S.getD j 0 ≤ 255 := by
  rw [List.getD]
  cases e : S[j]? with
  | none => simp
  | some n => exact h n (List.mem_of_getElem? e)

theorem short_mem (L : List (List Int)) (h : Short L) : ∀ z ∈ L, z.length ≤ 1048576 := by
  intro z hz
  obtain ⟨i, hi, rfl⟩ := List.mem_iff_getElem.1 hz
  have := h i
  simpa [List.getD, hi] using this

/-- Where the k-th frame begins. -/
def pos (L : List (List Int)) (k : Nat) : Nat := (enc (L.take k)).length

theorem pos_zero (L : List (List Int)) : pos L 0 = 0 := rfl
theorem pos_all (L : List (List Int)) : pos L L.length = (enc L).length := by unfold pos; rw [List.take_length]
theorem pos_le (L : List (List Int)) (k : Nat) (h : k < L.length) : pos L k + 4 + (L.getD k []).length ≤ (enc L).length := by
  rw [enc_split L k h]
  simp only [pos, List.length_append, pre4, List.length_cons, List.length_nil]
  omega
theorem le4_pos (L : List (List Int)) (k : Nat) (h : k < L.length) (hs : (L.getD k []).length ≤ 1048576) (K : Cfg) (hK : K.S = enc L) : K.le4 (pos L k) = (L.getD k []).length := by
  unfold Cfg.le4
  rw [hK, enc_split L k h]
  have e0 : (enc (L.take k) ++ (pre4 (L.getD k []).length ++ (L.getD k [] ++ enc (L.drop (k + 1))))).getD (enc (L.take k)).length 0 = _ := getD_right (enc (L.take k)) (pre4 (L.getD k []).length ++ (L.getD k [] ++ enc (L.drop (k + 1)))) 0
  unfold pos
  rw [e0, getD_right, getD_right, getD_right]
  exact pre4_getD _ _ hs
theorem body_pos (L : List (List Int)) (k : Nat) (h : k < L.length) : ((enc L).drop (pos L k + 4)).take (L.getD k []).length = L.getD k [] := by
  rw [enc_split L k h]
  have : pos L k + 4 = (enc (L.take k) ++ pre4 (L.getD k []).length).length := by simp [pos, pre4]
  rw [this, ← List.append_assoc, List.drop_left, List.take_left]
theorem le4_end (L : List (List Int)) (K : Cfg) (hK : K.S = enc L) : K.le4 (enc L).length = 0 := by
  unfold Cfg.le4
  rw [hK]
  have e : ∀ j, (enc L).length ≤ j → (enc L).getD j 0 = 0 := fun j hj => by rw [List.getD, List.getElem?_eq_none hj]; rfl
  rw [e _ (Nat.le_refl _), e _ (by omega), e _ (by omega), e _ (by omega)]
  rfl
end Go.Proofs.Qxb6606225aDoor
