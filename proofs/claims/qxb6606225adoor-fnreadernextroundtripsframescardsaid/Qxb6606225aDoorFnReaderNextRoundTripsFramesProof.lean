/-
  FnReaderNextRoundTripsFrames: the row and its tied card.
-/
import Derived.Test.Qxb6606225aDoorTie
import Derived.Test.Qxb6606225aDoorCards
import Derived.Test.Qxb6606225aDoorLaw2z
import Derived.Deep.Matrix
import Derived.Test.Qxb6606225aDoorSen
import Derived.OpenShut
import Derived.ChangeOld
import Derived.SevenTiedAt
namespace Go.Proofs.Qxb6606225aDoor.frames
open Go Go.ChangeShapes Go.WideShapes Go.ChangeAt Go.RowKit

theorem lies_of_cells {w : World} {x : Addr} {len cap : Nat} {z0 : List Int} (hl : len ≤ cap) (hz : z0.length = cap) (hcell : ∀ i, i < z0.length → w.cell? (x.add i) = some (.int .u8 (z0.getD i 0))) :
    Lies w (some x) (z0.take len) := by
  by_cases h0 : len = 0
  · subst h0
    exact Or.inl (by simp)
  · obtain ⟨b, off, spot⟩ := x
    have hc := hcell 0 (by omega)
    have hspot : spot = none := by simpa [Addr.add] using World.cell?_spot hc
    subst hspot
    refine Or.inr ⟨b, off, rfl, fun i hi => ?_⟩
    simp at hi
    have := hcell i (by omega)
    rw [Addr.add_lit] at this
    rw [this]
    have hi' : i < len := by omega
    simp [List.getD, hi']

/-- What the walk is told of a slice of slices of bytes that came in. -/
def IsRows (w : World) (a : Option Addr) (len cap : Nat) (A : Nat → Option Addr) (L C : Nat → Nat) (Z : Nat → List Int) : Prop :=
  (a = none ∧ len = 0 ∧ cap = 0) ∨
  ∃ x, a = some x ∧ len ≤ cap ∧ cap ≤ maxLen ∧ ∀ r, r < cap → w.cell? (x.add r) = some (.slice (A r) (L r) (C r)) ∧ L r ≤ C r ∧ C r ≤ maxLen ∧ (Z r).length = C r ∧ (∀ n ∈ Z r, (Lit.int .u8 n).wf = true) ∧ (A r = none → C r = 0) ∧
        ∀ a', A r = some a' → ∀ c, c < C r → w.cell? (a'.add c) = some (.int .u8 ((Z r).getD c 0))

theorem getD_map_range (len : Nat) (f : Nat → List Int) (i : Nat) (h : i < len) : ((List.range len).map f).getD i [] = f i := by
  simp [List.getD, h]

theorem walk (a0 : Option Addr) (len0 cap0 : Nat) (A : Nat → Option Addr) (L C : Nat → Nat) (Z : Nat → List Int) (a1 : Int) (w : World) (ea ua : Addr) (w0 : IsRows w a0 len0 cap0 A L C Z) (w1 : (Lit.int .i64 a1).wf = true) (hs : SenIn w ea ua) :
    Calls Tryd.prog 4 #[.slice a0 len0 cap0, .int .i64 a1] w fun e w' => e = .returned (.bool true) ∧ Below w.heap.size w w' := by
  have bv := bounds_i64 w1
  by_cases h0 : len0 = 0
  · subst h0
    refine law2_zero a0 cap0 (fun h => ?_) a1 w ea ua (by omega) hs
    rcases w0 with ⟨_, _, h⟩ | ⟨x, rfl, _⟩
    · exact h
    · cases h
  · rcases w0 with ⟨_, h, _⟩ | ⟨x, rfl, hl, hm, hr⟩
    · exact absurd h h0
    · obtain ⟨b, off, spot⟩ := x
      have hspot : spot = none := by simpa [Addr.add] using World.cell?_spot (hr 0 (by omega)).1
      subst hspot
      unfold maxLen at hm
      have hlenl : ∀ r, r < len0 → ((Z r).take (L r)).length = L r := fun r h => by
        have h9 := hr r (by omega)
        rw [List.length_take, h9.2.2.2.1]
        omega
      have hbods : Bods w b off ((List.range len0).map fun r => (Z r).take (L r)) := by
        intro i hi
        rw [List.length_map, List.length_range] at hi
        obtain ⟨h1, h2, h3, h4, h5, h6, h7⟩ := hr i (by omega)
        rw [getD_map_range _ _ _ hi, hlenl i hi]
        rw [Addr.add_lit] at h1
        refine ⟨A i, C i, h1, ?_, fun hA => ?_⟩
        · cases hA : A i with
          | none =>
            have := h6 hA
            refine Or.inl (List.eq_nil_of_length_eq_zero ?_)
            rw [hlenl i hi]
            omega
          | some y => exact lies_of_cells h2 h4 (fun j hj => h7 y hA j (by omega))
        · have := h6 hA
          omega
      refine law2_some b off len0 cap0 _ a1 w ea ua (by simp) (by omega) (by omega) hbods (fun i => ?_) ?_ (by omega) hs
      · by_cases hi : i < len0
        · rw [getD_map_range _ _ _ hi, hlenl i hi]
          have h9 := hr i (by omega)
          have h10 := h9.2.1
          have h11 := h9.2.2.1
          unfold maxLen at h11
          omega
        · rw [List.getD, List.getElem?_eq_none (by simp; omega)]
          simp
      · intro z hz x hx
        obtain ⟨r, hrl, rfl⟩ := List.mem_map.1 hz
        rw [List.mem_range] at hrl
        exact bounds_u8 ((hr r (by omega)).2.2.2.2.1 x (List.mem_of_mem_take hx))

set_option maxRecDepth 100000 in
theorem lifted (os : Os) (started : os.Started) (H : Type) (enc : TypeId × Value → H) :
    ReturnsInHanded {} Tryd.checked os 4 .any (fun w args => (Rows.fnReaderNextRoundTripsFramesSpec.pre enc Tryd.prog Tryd.f4 [] false w args ∧ laidMetH Tryd.prog laid7 w) ∧ sizedMet enc Tryd.prog Tryd.f4 (OpenSpec.ofChange Rows.fnReaderNextRoundTripsFramesSpec) false w args)
      (Rows.fnReaderNextRoundTripsFramesSpec.post enc Tryd.prog Tryd.f4 false true false false) := by
  refine returnsInHanded_of_change_and (C := Tryd.checked) (X := fun w _ => laidMetH Tryd.prog laid7 w) (fun _ _ _ hh h => h.of_heap hh) own started (by kernel_rfl) Tryd.func4
    (ChangeSpec.witness_shaped (enc := enc) (C := Tryd.checked) (os := os) (X := fun w _ => laidMetH Tryd.prog laid7 w) false (World.doorLaid Tryd.prog 142 os) #[.slice none 0 0, .int .i64 0] 8 rfl (World.shaped_of_RefB (by kernel_rfl) (by kernel_rfl)) (by kernel_rfl) (by kernel_rfl) (by kernel_rfl) (door_met os _)) ?_
  intro W base args ds gs before hval0 hW _ _ hL _
  have hval : ∀ (j : Nat) t v, Tryd.f4.params[j]? = some t → args[j]? = some v → Value.okWide Tryd.prog W .any base t v := hval0
  have hW' := hW
  obtain ⟨p, q, hA0, hV, rfl, hfz, hnd⟩ := hW
  have hA : DataW.TrodAll enc Tryd.prog W 0 (fun _ => true) true Tryd.f4.params.toList args.toList ds p := hA0
  rw [Tryd.params4] at hA hval
  obtain ⟨v0, vs0, d0, ds0, p0, q0, hargs, rfl, rfl, h0, r0⟩ := trodAll_cons hA
  obtain ⟨v1, vs1, d1, ds1, p1, q1, rfl, rfl, rfl, h1, r1⟩ := trodAll_cons r0
  obtain ⟨rfl, rfl, rfl⟩ := trodAll_nil r1
  obtain rfl : args = #[v0, v1] := by cases args; simp_all
  obtain ⟨rfl, rfl⟩ := trodVars_none hV
  obtain ⟨a1, rfl, rfl, rfl, w1⟩ := open_int Tryd.underlying3 (hval 1 3 v1 rfl rfl) h1
  obtain ⟨a0, len0, cap0, rfl⟩ := okWide_slice Tryd.underlying36 (hval 0 36 v0 rfl rfl)
  have k0 := h0
  have lt0 : ∀ x ∈ p0, x.block < W.heap.size := by obtain ⟨m, hm⟩ := k0; exact DataW.trod_lt m _ _ _ hm
  obtain ⟨A, L, C, Z, w0⟩ : ∃ A L C Z, IsRows W a0 len0 cap0 A L C Z := by
    obtain ⟨fuel, hf⟩ := h0
    rcases Go.Deep.open_int_rows Tryd.underlying36 Tryd.underlying22 Tryd.underlying5 (by kernel_rfl) (by kernel_rfl) hf with ⟨hcs, _⟩ | ⟨x, l, c, A, L, C, Z, hcs, _, hl, hm, _, hr⟩
    · simp [Value.cells] at hcs
      obtain ⟨rfl, rfl, rfl⟩ := hcs
      exact ⟨fun _ => none, fun _ => 0, fun _ => 0, fun _ => [], .inl ⟨rfl, rfl, rfl⟩⟩
    · simp [Value.cells] at hcs
      obtain ⟨rfl, rfl, rfl⟩ := hcs
      refine ⟨A, L, C, Z, .inr ⟨_, rfl, hl, hm, fun r hrl => ?_⟩⟩
      obtain ⟨h1, h2, h3, h4, h5, h6, h7⟩ := hr r hrl
      exact ⟨h1, h2, h3, h4, h5, h6, fun a' ha => (h7 a' ha).2⟩
  obtain ⟨ea, ua, hs⟩ := sen_of_laid hL
  clear hA0 hval0
  refine (walk a0 len0 cap0 A L C Z a1 W ea ua w0 w1 hs).mono fun e W' ⟨he, bel⟩ => ?_
  subst he
  exact ⟨_, rfl, _, _, _, [], _, [], hW', trodAll_mk1 (shut_bool Tryd.underlying4 _), (trodAll_cons_mk (Below.trod laidOut (by kernel_rfl) (of_decide_eq_true (by kernel_rfl)) k0 bel lt0) (trodAll_cons_mk (shut_int Tryd.underlying3 w1) trodAll_mk0)), rfl, bel.frame _, fun h => by cases h⟩

theorem over : Rows.FnReaderNextRoundTripsFramesSaid :=
  OpenClaim.holds_of_wide 4 Tryd.f4 rfl rfl rfl rfl rfl rfl rfl ⟨rfl, rfl, rfl, rfl, rfl⟩ rfl rfl rfl rfl rfl (by kernel_rfl) Tryd.func4 (by kernel_rfl)
    (of_decide_eq_true (by kernel_rfl)) (by unfold Func.isWrapper; first | (rw [if_pos (by decide +kernel)]; kernel_rfl) | (rw [if_neg (by decide +kernel)]; exact ⟨rfl, rfl⟩))
    (fun os started H enc _ => lifted os started H enc)

/-- THE STATEMENT: the tied card. -/
theorem proved : Rows.FnReaderNextRoundTripsFramesCardSaid :=
  Claim7.holds_tied_plain_at .later [] [.sentinel, .sentinel, .sentinel, .sentinel, .sentinel, .sentinel, .sentinel] true (true, "c8888c762f071465701b61057f8bd3e8ef40fe158965562cf1c647c366f3cff1") true
    over (fun _ h => by cases h) (by kernel_rfl) (fun _ h => by cases h) fnReaderNextRoundTripsFrames_row_tie rfl ⟨rfl, rfl⟩ (by kernel_rfl) rfl
    (fun f fn hf hfn => by
      obtain rfl : f = 4 := Option.some.inj ((show Tryd.prog.funcNamed "example.com/tersecall/tersecall/zzlaws_internal_frame_b1.FnReaderNextRoundTripsFrames" = some 4 by kernel_rfl).symm.trans hf) |>.symm
      obtain rfl : fn = Tryd.f4 := (Option.some.inj (Tryd.func4.symm.trans hfn)).symm
      exact ⟨by kernel_rfl, fun j t ht => by
        rw [Tryd.params4] at ht
        rcases j with _ | _ | j
        · obtain rfl : t = 36 := by simpa using ht.symm
          exact (show Tryd.prog.wantsStandIn 36 = false by kernel_rfl)
        · obtain rfl : t = 3 := by simpa using ht.symm
          exact (show Tryd.prog.wantsStandIn 3 = false by kernel_rfl)
        · simp at ht⟩)
    (by kernel_rfl)
end Go.Proofs.Qxb6606225aDoor.frames
