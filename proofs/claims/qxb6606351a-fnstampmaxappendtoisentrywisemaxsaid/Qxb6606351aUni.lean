/-
  The clones, nil or not, in one form each; which blocks they take.
-/
import Derived.Test.Qxb6606351aDom
namespace Go.Proofs.Qxb6606351a
open Go.ChangeShapes Go.WideShapes Go.ChangeAt Go.RowKit
set_option linter.unusedVariables false
set_option linter.unusedSimpArgs false

/-- The count is one at most, and nought outside the blocks from lo to hi. -/
def Rng (lo hi : Nat) (c : Nat → Nat) : Prop := ∀ k, c k ≤ 1 ∧ (k < lo → c k = 0) ∧ (hi ≤ k → c k = 0)
theorem Rng.add {a b d : Nat} {c c' : Nat → Nat} (h : Rng a b c) (h' : Rng b d c') (h1 : a ≤ b) (h2 : b ≤ d) : Rng a d (fun k => c k + c' k) := by
  intro k
  obtain ⟨p1, p2, p3⟩ := h k
  obtain ⟨q1, q2, q3⟩ := h' k
  refine ⟨?_, fun hk => ?_, fun hk => ?_⟩
  · show c k + c' k ≤ 1
    by_cases e : k < b
    · have := q2 e; omega
    · have := p3 (by omega); omega
  · show c k + c' k = 0
    have := p2 hk; have := q2 (by omega); omega
  · show c k + c' k = 0
    have := p3 (by omega); have := q3 hk; omega
theorem Rng.one {g lo hi : Nat} (h1 : lo ≤ g) (h2 : g < hi) : Rng lo hi (fun k => if k = g then 1 else 0) := by
  intro k
  by_cases e : k = g
  · simp only [if_pos e]; exact ⟨Nat.le_refl _, fun h => by omega, fun h => by omega⟩
  · simp only [if_neg e]; exact ⟨by omega, fun _ => trivial, fun _ => trivial⟩
theorem Rng.own {w : World} {base : Nat} {e : TypeId} {size : Nat} {v : Value} {n lo : Nat} {xs : List Value} (h : w.ownsRow base e size v n xs) (hlo : ∀ k, v.ownBlock = some k → lo ≤ k) : Rng lo w.heap.size (fun k => cb k v) := by
  intro k
  refine ⟨by show cb k v ≤ 1; unfold cb; split <;> omega, fun hk => ?_, fun hk => own_lt h hk⟩
  show cb k v = 0
  unfold cb
  rw [if_neg]
  intro e
  have := hlo k e
  omega

/-- What zzToStamp leaves. -/
def TosOut (a : Option Addr) (es : List E) (w w' : World) (e : Ending) : Prop :=
  ∃ v, e = .returned v ∧ w'.ownsRow 0 39 2 v es.length (flat es) ∧ (v = nilS ↔ a = none) ∧ (∀ k, v.ownBlock = some k → w.heap.size ≤ k) ∧ Below w.heap.size w w'

theorem tos_any (a : Option Addr) (n cap : Nat) (es : List E) (w : World) (hz : es.length = n) (hn : n ≤ 1048576) (ha : Ents w a es) (hnil : a = none → n = 0 ∧ cap = 0) :
    Calls Try.prog 12 #[.slice a n cap] w fun e w' => TosOut a es w w' e := by
  cases a with
  | none =>
    obtain ⟨rfl, rfl⟩ := hnil rfl
    refine (tos_none w).mono ?_
    rintro e w' ⟨rfl, rfl⟩
    have e0 : es = [] := List.eq_nil_of_length_eq_zero hz
    subst e0
    exact ⟨nilS, rfl, ⟨rfl, Or.inl ⟨rfl, rfl⟩⟩, ⟨fun _ => rfl, fun _ => rfl⟩, (fun k e => by cases e), Below.refl _ _⟩
  | some ad =>
    refine (tos_some ad n cap es w hz hn ha).mono ?_
    rintro e w' ⟨rfl, ho, hb⟩
    exact ⟨_, rfl, ho, ⟨(fun e => by cases e), (fun e => by cases e)⟩, (fun k e => Nat.le_of_eq (Option.some.inj e)), hb⟩

/-- What zzCloneBools leaves. -/
def ClbOut (n : Nat) (F : Nat → Bool) (w w' : World) (e : Ending) : Prop :=
  ∃ a c, e = .returned (.slice a n c) ∧ (0 < n → a = some ⟨w.heap.size, 0, none⟩ ∧ c = n ∧ w'.rowIs w.heap.size 4 n (fun i => .bool (F i))) ∧ Below w.heap.size w w'

theorem clb_any (a : Option Addr) (n cap : Nat) (F : Nat → Bool) (w : World) (hn : n ≤ 1048576) (ha : BoolsIn w a n F) (hnil : a = none → n = 0 ∧ cap = 0) :
    Calls Try.prog 11 #[.slice a n cap] w fun e w' => ClbOut n F w w' e := by
  cases a with
  | none =>
    obtain ⟨rfl, rfl⟩ := hnil rfl
    refine (clb_none w).mono ?_
    rintro e w' ⟨rfl, rfl⟩
    exact ⟨none, 0, rfl, fun h => by omega, Below.refl _ _⟩
  | some ad =>
    refine (clb_some ad n cap F w hn (fun h => ?_)).mono ?_
    · obtain ⟨b, o, e, hc⟩ := ha h
      exact ⟨b, o, Option.some.inj e, hc⟩
    · rintro e w' ⟨rfl, ho, hb⟩
      exact ⟨_, n, rfl, fun _ => ⟨rfl, rfl, ho⟩, hb⟩

/-- What zzToStamps leaves. -/
def TssOut (a : Option Addr) (n : Nat) (L : Nat → List E) (A : Nat → Option Addr) (w w' : World) (e : Ending) : Prop :=
  ∃ a' c f, e = .returned (.slice a' n c) ∧ ((a' = none ∧ n = 0 ∧ c = 0 ∧ a = none) ∨ (a' = some ⟨w.heap.size, 0, none⟩ ∧ c = n ∧ a ≠ none ∧ Tsd w' w.heap.size n L A f n)) ∧ Below w.heap.size w w'

theorem tss_any (a : Option Addr) (n cap : Nat) (L : Nat → List E) (A : Nat → Option Addr) (C : Nat → Nat) (w : World) (hn : n ≤ 1048576) (ha : RwsIn w a n L A C) (hnil : a = none → n = 0 ∧ cap = 0) (hlen : ∀ i, i < n → (L i).length ≤ 1048576) :
    Calls Try.prog 10 #[.slice a n cap] w fun e w' => TssOut a n L A w w' e := by
  cases a with
  | none =>
    obtain ⟨rfl, rfl⟩ := hnil rfl
    refine (tss_none w).mono ?_
    rintro e w' ⟨rfl, rfl⟩
    exact ⟨none, 0, fun _ => nilS, rfl, Or.inl ⟨rfl, rfl, rfl, rfl⟩, Below.refl _ _⟩
  | some ad =>
    refine (tss_some ad n cap L A C w hn (fun h => ?_) hlen).mono ?_
    · obtain ⟨b, o, e, hc⟩ := ha h
      exact ⟨b, o, Option.some.inj e, hc⟩
    · rintro e w' ⟨rfl, ⟨f, ho⟩, hb⟩
      exact ⟨_, n, f, rfl, Or.inr ⟨rfl, rfl, (fun e => by cases e), ho⟩, hb⟩

theorem Tsd.rng {w : World} {g n : Nat} {L : Nat → List E} {A : Nat → Option Addr} {f : Nat → Value} (h : Tsd w g n L A f n) : Rng g w.heap.size (fun k => (if k = g then 1 else 0) + sumTo n (fun j => cb k (f j))) := by
  intro k
  have h1 := h.ap k
  have h2 := h.lt k
  have h3 := rowIs_lt h.row
  refine ⟨?_, fun hk => ?_, fun hk => ?_⟩
  · show (if k = g then 1 else 0) + sumTo n (fun j => cb k (f j)) ≤ 1
    by_cases e : k = g
    · rw [if_pos e]; rw [if_pos (by omega)] at h1; omega
    · rw [if_neg e]; split at h1 <;> omega
  · show (if k = g then 1 else 0) + sumTo n (fun j => cb k (f j)) = 0
    rw [if_neg (by omega)]; rw [if_pos (by omega)] at h1; omega
  · show (if k = g then 1 else 0) + sumTo n (fun j => cb k (f j)) = 0
    rw [if_neg (by omega), h2 hk]

/-- The values of a row, as a list. -/
def row (n : Nat) (f : Nat → Value) : List Value := (List.range n).map f
theorem row_length (n : Nat) (f : Nat → Value) : (row n f).length = n := by simp [row]
theorem row_cbs (k n : Nat) (f : Nat → Value) : cbs k (row n f) = sumTo n (fun j => cb k (f j)) := by
  induction n with
  | zero => rfl
  | succ n ih =>
    unfold row at ih ⊢
    rw [List.range_succ, List.map_append, cbs_append, ih]
    simp [cbs, sumTo]
theorem row_own {w : World} {g n : Nat} {t : TypeId} {f : Nat → Value} (h : w.rowIs g t n f) (hn : n ≤ 1048576) : w.ownsRow 0 t 1 (.slice (some ⟨g, 0, none⟩) n n) n (row n f) := by
  obtain ⟨c, hc, hs, hf⟩ := h
  refine ⟨by rw [row_length]; omega, Or.inr ⟨g, n, c, rfl, Nat.zero_le _, hc, Nat.le_refl _, by unfold maxLen; omega, by omega, ?_⟩⟩
  apply List.ext_getElem?
  intro j
  by_cases hj : j < n
  · rw [List.getElem?_take_of_lt (by omega)]
    have := hf j hj
    simp only [Array.getElem?_toList]
    rw [this]
    simp [row, hj]
  · rw [List.getElem?_eq_none (by rw [List.length_take, Array.length_toList]; omega), List.getElem?_eq_none (by rw [row_length]; omega)]

/-- ZZNewStampMax. -/
theorem new_any (a1 a2 a3 a5 : Option Addr) (n1 c1 n2 c2 n3 c3 n5 c5 : Nat) (x : Int) (w : World) :
    Calls Try.prog 9 #[.slice a1 n1 c1, .slice a2 n2 c2, .slice a3 n3 c3, .int .i64 x, .slice a5 n5 c5] w fun e w' => e = .returned (.pointer (some ⟨w.heap.size, 0, none⟩)) ∧ Sm w' w.heap.size (.slice a1 n1 c1) (.slice a2 n2 c2) (.slice a3 n3 c3) (.int .i64 x) (.slice a5 n5 c5) ∧ Below w.heap.size w w' := by
  go_enter Try.func9, Try.ntmps9
  go_wp2
  go_ret
  have hh : ∀ c : Array Value, (w.alloc (.cells c 53)).heap[w.heap.size]? = some (.cells c 53 (0, 0)) := fun c => heap_alloc_new w _
  refine ⟨rfl, ⟨?_, ?_, ?_, ?_, ?_, fun j => ?_⟩, (Below.refl _ _).alloc (Nat.le_refl _) _⟩
  all_goals first | (simp [World.cell?, hh]; done) | (simp [World.frozen?, hh])
end Go.Proofs.Qxb6606351a
