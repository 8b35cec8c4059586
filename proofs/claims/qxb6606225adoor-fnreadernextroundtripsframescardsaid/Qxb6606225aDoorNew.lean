/-
  The walks of the constructors.
-/
import Derived.Test.Qxb6606225aDoorNext
namespace Go.Proofs.Qxb6606225aDoor
open Go.ChangeShapes Go.WideShapes Go.ChangeAt Go.RowKit
set_option linter.unusedVariables false
set_option linter.unusedSimpArgs false

theorem not_buf (a : Addr) (w : World) : (Instr.typeAssert (.iface 42 (.pointer (some a))) 46 52 true).run Tryd.prog w = .ok (.tuple #[.pointer none, .bool false]) w := by kernel_rfl

set_option maxRecDepth 100000 in
set_option maxHeartbeats 1000000 in
theorem newSize_any (gb B : Nat) (w : World) (h16 : 16 ≤ B) (hB : B ≤ 1000000) :
    Calls Tryd.prog 24 #[.iface 42 (.pointer (some ⟨gb, 0, none⟩)), .int .i64 B] w fun e w' => e = .returned (.pointer (some ⟨w.heap.size, 0, none⟩)) ∧
      w' = (w.alloc (.cells #[.slice (some ⟨w.heap.size + 1, 0, none⟩) B B, .iface 42 (.pointer (some ⟨gb, 0, none⟩)), .int .i64 0, .int .i64 0, .nilIface, .int .i64 (-1), .int .i64 (-1)] 69)).alloc (.cells (madeCells #[.int .u8 0] B) 5) := by
  have hmk := run_make_row' (P := Tryd.prog) 22 5 (.int .u8 0) 1 Tryd.underlying22 Tryd.info5 rfl .i64 .i64 B (by omega) (by omega)
  have hna := not_buf ⟨gb, 0, none⟩
  go_enter Tryd.func24, Tryd.ntmps24
  go_wp2
  go_end0
  go_wp2
  go_ret
  exact ⟨rfl, rfl⟩

/-- What the constructor leaves: a reader at the source's head. -/
def NewDone (sa : Option Addr) (S : List Int) (mx : Int) (w w' : World) (e : Ending) : Prop :=
  ∃ (K : Cfg) (gF : Nat), e = .returned (.pointer (some ⟨gF, 0, none⟩)) ∧ K.Ok ∧ K.sa = sa ∧ K.S = S ∧ K.N = S.length ∧ Br K w' 0 0 0 0 .nilIface ∧ Fr K gF mx w' ∧ Sen K w' ∧ Below w.heap.size w w' ∧ (∀ k, K.X k → w.heap.size ≤ k) ∧ w.heap.size < w'.heap.size

/-- What is asked of the two sentinels in memory. -/
structure SenIn (w : World) (ea ua : Addr) : Prop where
  c0 : w.cell? ⟨0, 0, none⟩ = some (.iface 75 (.pointer (some ea)))
  c1 : w.cell? ⟨1, 0, none⟩ = some (.iface 75 (.pointer (some ua)))
  e : ∃ c t, w.heap[ea.block]? = some (.cells c t (0, 0))
  u : ∃ c t, w.heap[ua.block]? = some (.cells c t (0, 0))
  big : 8 ≤ w.heap.size

theorem SenIn.below {w w' : World} {ea ua : Addr} (h : SenIn w ea ua) (hb : Below w.heap.size w w') : SenIn w' ea ua := by
  obtain ⟨c, t, h1⟩ := h.e
  obtain ⟨c', t', h2⟩ := h.u
  have l1 := (Array.getElem?_eq_some_iff.1 h1).1
  have l2 := (Array.getElem?_eq_some_iff.1 h2).1
  have hbig := h.big
  exact ⟨(hb.cell (p := ⟨0, 0, none⟩) (by show 0 < _; omega)).trans h.c0, (hb.cell (p := ⟨1, 0, none⟩) (by show 1 < _; omega)).trans h.c1, ⟨c, t, (hb.block _ l1).trans h1⟩, ⟨c', t', (hb.block _ l2).trans h2⟩, Nat.le_trans h.big hb.size⟩

/-- The world that the constructor leaves, written out. -/
def newWorld (w : World) (sa : Option Addr) (N sc B : Nat) (mx : Int) : World :=
  (((w.alloc (.cells #[.slice sa N sc, .int .i64 0, .int .i64 (-1)] 50)).alloc (.cells #[.slice (some ⟨w.heap.size + 2, 0, none⟩) B B, .iface 42 (.pointer (some ⟨w.heap.size, 0, none⟩)), .int .i64 0, .int .i64 0, .nilIface, .int .i64 (-1), .int .i64 (-1)] 69)).alloc
    (.cells (madeCells #[.int .u8 0] B) 5)).alloc (.cells #[.pointer (some ⟨w.heap.size + 1, 0, none⟩), .int .u64 mx, .nilIface, .func (.func 19) #[] #[]] 54)

theorem newWorld_b0 (w : World) (sa : Option Addr) (N sc B : Nat) (mx : Int) : (newWorld w sa N sc B mx).heap[w.heap.size]? = some (.cells #[.slice sa N sc, .int .i64 0, .int .i64 (-1)] 50 (0, 0)) := by
  show ((((w.heap.push _).push _).push _).push _)[w.heap.size]? = _
  simp only [Array.getElem?_push, Array.size_push]
  rw [if_neg (by omega), if_neg (by omega), if_neg (by omega), if_pos trivial]
theorem newWorld_b1 (w : World) (sa : Option Addr) (N sc B : Nat) (mx : Int) : (newWorld w sa N sc B mx).heap[w.heap.size + 1]? = some (.cells #[.slice (some ⟨w.heap.size + 2, 0, none⟩) B B, .iface 42 (.pointer (some ⟨w.heap.size, 0, none⟩)), .int .i64 0, .int .i64 0, .nilIface, .int .i64 (-1), .int .i64 (-1)] 69 (0, 0)) := by
  show ((((w.heap.push _).push _).push _).push _)[w.heap.size + 1]? = _
  simp only [Array.getElem?_push, Array.size_push]
  rw [if_neg (by omega), if_neg (by omega), if_pos trivial]
theorem newWorld_b2 (w : World) (sa : Option Addr) (N sc B : Nat) (mx : Int) : (newWorld w sa N sc B mx).heap[w.heap.size + 2]? = some (.cells (madeCells #[.int .u8 0] B) 5 (0, 0)) := by
  show ((((w.heap.push _).push _).push _).push _)[w.heap.size + 2]? = _
  simp only [Array.getElem?_push, Array.size_push]
  rw [if_neg (by omega), if_pos trivial]
theorem newWorld_b3 (w : World) (sa : Option Addr) (N sc B : Nat) (mx : Int) : (newWorld w sa N sc B mx).heap[w.heap.size + 3]? = some (.cells #[.pointer (some ⟨w.heap.size + 1, 0, none⟩), .int .u64 mx, .nilIface, .func (.func 19) #[] #[]] 54 (0, 0)) := by
  show ((((w.heap.push _).push _).push _).push _)[w.heap.size + 3]? = _
  simp only [Array.getElem?_push, Array.size_push]
  rw [if_pos trivial]

theorem newWorld_done (w : World) (sa : Option Addr) (S : List Int) (sc B : Nat) (mx : Int) (ea ua : Addr) (hN : S.length ≤ 1000000000) (hc : S.length ≤ sc) (hl : Lies w sa S) (hby : ∀ j, 0 ≤ S.getD j 0 ∧ S.getD j 0 ≤ 255) (hsl : ∀ b o, sa = some ⟨b, o, none⟩ → b < w.heap.size)
    (hs : SenIn w ea ua) (h4 : 4 ≤ B) (hB : B ≤ 1000000) : NewDone sa S mx w (newWorld w sa S.length sc B mx) (.returned (.pointer (some ⟨w.heap.size + 3, 0, none⟩))) := by
  have hbig := hs.big
  obtain ⟨c, t, h1⟩ := hs.e
  obtain ⟨c', t', h2⟩ := hs.u
  have l1 := (Array.getElem?_eq_some_iff.1 h1).1
  have l2 := (Array.getElem?_eq_some_iff.1 h2).1
  have hb : Below w.heap.size w (newWorld w sa S.length sc B mx) := ((((Below.refl _ _).alloc (Nat.le_refl _) _).alloc (by simp) _).alloc (by simp; omega) _).alloc (by simp; omega) _
  have hs' := hs.below hb
  have hsz : (newWorld w sa S.length sc B mx).heap.size = w.heap.size + 4 := by simp [newWorld]
  refine ⟨⟨sa, sc, S, S.length, w.heap.size, w.heap.size + 1, w.heap.size + 2, B, ea, ua⟩, w.heap.size + 3, rfl, ⟨rfl, hN, hc, by simp, by simp, by simp, hbig, by simp; omega, by simp; omega, h4, hB, fun b o e => ?_, hby⟩, rfl, rfl, rfl, ?_, ?_, ?_, hb, ?_, by omega⟩
  · have := hsl b o e
    simp only
    omega
  · refine ⟨⟨hl.below hb, ?_, ?_, ⟨-1, ?_⟩, ?_, Nat.zero_le _, hs'.c0⟩, ?_, ?_, ?_, ?_, ?_, ⟨-1, ?_⟩, ⟨-1, ?_⟩, ?_, ⟨(madeCells #[.int .u8 0] B).toList, ?_, ?_, fun j h1 h2 => by omega⟩, Nat.le_refl _, Nat.zero_le _, rfl, Or.inl rfl, hs'.c1⟩
    · simp [World.cell?, newWorld_b0]
    · simp [World.cell?, newWorld_b0]
    · simp [World.cell?, newWorld_b0]
    · intro j; simp [World.frozen?, newWorld_b0]
    · simp [World.cell?, newWorld_b1]
    · simp [World.cell?, newWorld_b1]
    · simp [World.cell?, newWorld_b1]
    · simp [World.cell?, newWorld_b1]
    · simp [World.cell?, newWorld_b1]
    · simp [World.cell?, newWorld_b1]
    · simp [World.cell?, newWorld_b1]
    · intro j; simp [World.frozen?, newWorld_b1]
    · simp [newWorld_b2]
    · simp [size_madeCells]
  · refine ⟨?_, ?_, ?_, ?_⟩
    · simp [World.cell?, newWorld_b3]
    · simp [World.cell?, newWorld_b3]
    · simp [World.cell?, newWorld_b3]
    · intro h; rcases h with h | h | h <;> simp only at h <;> omega
  · refine ⟨⟨c, t, (hb.block _ l1).trans h1⟩, ⟨c', t', (hb.block _ l2).trans h2⟩, ?_, ?_⟩
    all_goals (intro h; rcases h with h | h | h <;> simp only at h <;> omega)
  · intro k h
    rcases h with h | h | h <;> simp only at h <;> omega

set_option maxRecDepth 100000 in
set_option maxHeartbeats 1000000 in
theorem new_walk (sa : Option Addr) (N sc : Nat) (ms mx : Int) (w : World) (hm : ms ≤ 9223372036854775807) (hmx : mx = if ms ≤ 0 then 67108864 else ms) :
    Calls Tryd.prog 9 #[.slice sa N sc, .int .i64 ms] w fun e w' => e = .returned (.pointer (some ⟨w.heap.size + 3, 0, none⟩)) ∧ ∃ B, 4 ≤ B ∧ B ≤ 1000000 ∧ w' = newWorld w sa N sc B mx := by
  obtain ⟨B, hB, hB1, hB2⟩ : ∃ B : Nat, (4096 : Int) = (B : Int) ∧ 16 ≤ B ∧ B ≤ 1000000 := ⟨4096, rfl, by omega, by omega⟩
  have HB := Hid.mk hB
  clear hB
  by_cases h0 : ms ≤ 0
  · rw [if_pos h0] at hmx
    subst hmx
    go_enter Tryd.func9, Tryd.ntmps9
    go_wp2_with (first | (go_at_call 16; go_in) | (go_at_call 15; go_in) | (go_at_call 18; go_in))
    rw [HB.out]
    refine (newSize_any w.heap.size B _ hB1 hB2).mono ?_
    rintro e w2 ⟨rfl, rfl⟩
    go_wp2
    go_ret
    refine ⟨by simp, B, by omega, hB2, ?_⟩
    simp [newWorld]
  · rw [if_neg h0] at hmx
    subst hmx
    have h1 : 0 < mx := by omega
    go_enter Tryd.func9, Tryd.ntmps9
    go_wp2_with (first | (go_at_call 16; go_in) | (go_at_call 15; go_in) | (go_at_call 18; go_in))
    rw [HB.out]
    refine (newSize_any w.heap.size B _ hB1 hB2).mono ?_
    rintro e w2 ⟨rfl, rfl⟩
    go_wp2
    go_ret
    refine ⟨by simp, B, by omega, hB2, ?_⟩
    simp [newWorld]

theorem new_any (sa : Option Addr) (S : List Int) (sc : Nat) (ms mx : Int) (w : World) (ea ua : Addr) (hm : ms ≤ 9223372036854775807) (hmx : mx = if ms ≤ 0 then 67108864 else ms)
    (hN : S.length ≤ 1000000000) (hc : S.length ≤ sc) (hl : Lies w sa S) (hby : ∀ j, 0 ≤ S.getD j 0 ∧ S.getD j 0 ≤ 255) (hsl : ∀ b o, sa = some ⟨b, o, none⟩ → b < w.heap.size) (hs : SenIn w ea ua) :
    Calls Tryd.prog 9 #[.slice sa S.length sc, .int .i64 ms] w fun e w' => NewDone sa S mx w w' e := by
  refine (new_walk sa S.length sc ms mx w hm hmx).mono ?_
  rintro e w' ⟨rfl, B, h4, hB, rfl⟩
  exact newWorld_done w sa S sc B mx ea ua hN hc hl hby hsl hs h4 hB
end Go.Proofs.Qxb6606225aDoor
