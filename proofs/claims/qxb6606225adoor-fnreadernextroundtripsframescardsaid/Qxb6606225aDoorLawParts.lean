/-
  The walks of the laws' own helpers: frb1Prefix, frb1Clone, frb1Same, ZZnext.
-/
import Derived.Test.Qxb6606225aDoorNew
namespace Go.Proofs.Qxb6606225aDoor
open Go.ChangeShapes Go.WideShapes Go.ChangeAt Go.RowKit
set_option linter.unusedVariables false
set_option linter.unusedSimpArgs false

/-- The number that the first four bytes of a row spell, the least first. -/
def le4 (S : List Int) : Int := S.getD 0 0 + S.getD 1 0 * 256 + S.getD 2 0 * 65536 + S.getD 3 0 * 16777216

theorem prefix64_short (a : Option Addr) (len cap : Nat) (w : World) (h : len < 4) :
    Calls Tryd.prog 6 #[.slice a len cap] w fun e w' => e = .returned (.tuple #[.bool false, .int .u64 0]) ∧ w' = w := by
  go_enter Tryd.func6, Tryd.ntmps6
  go_wp2
  go_ret2
  exact ⟨rfl, rfl⟩

set_option maxRecDepth 100000 in
set_option maxHeartbeats 2000000 in
theorem prefix64_long (ad : Addr) (len cap : Nat) (S : List Int) (w : World) (h : 4 ≤ len) (hm : len ≤ 1048576) (hz : S.length = len) (hl : Lies w (some ad) S) (hby : ∀ j, 0 ≤ S.getD j 0 ∧ S.getD j 0 ≤ 255) :
    Calls Tryd.prog 6 #[.slice (some ad) len cap] w fun e w' => e = .returned (.tuple #[.bool true, .int .u64 (le4 S)]) ∧ ∃ n, w' = w.drewN n := by
  obtain ⟨g, o, e, hc⟩ := hl.at (by omega)
  obtain rfl := Option.some.inj e
  have c0 := hc 0 (by omega)
  have c1 := hc 1 (by omega)
  have c2 := hc 2 (by omega)
  have c3 := hc 3 (by omega)
  rw [Nat.add_zero] at c0
  have h0 := hby 0
  have h1 := hby 1
  have h2 := hby 2
  have h3 := hby 3
  have HV : Hid (le4 S = S.getD 0 0 + S.getD 1 0 * 256 + S.getD 2 0 * 65536 + S.getD 3 0 * 16777216) := rfl
  generalize S.getD 0 0 = b0 at *
  generalize S.getD 1 0 = b1 at *
  generalize S.getD 2 0 = b2 at *
  generalize S.getD 3 0 = b3 at *
  have i0 : (0 : Int) < (len : Int) := by omega
  have i1 : (1 : Int) < (len : Int) := by omega
  have i2 : (2 : Int) < (len : Int) := by omega
  have i3 : (3 : Int) < (len : Int) := by omega
  have i4 : ¬ (len : Int) < 4 := by omega
  clear hc hl hby e hz
  go_enter Tryd.func6, Tryd.ntmps6
  go_wp2
  go_quiet (fail)
  go_wp2
  go_ret2
  refine ⟨?_, _, rfl⟩
  show Ending.returned (.tuple #[.bool true, .int .u64 (bits .or .u64 (bits .or .u64 (bits .or .u64 b0 (b1 * 256)) (b2 * 65536)) (b3 * 16777216))]) = _
  rw [or64 b0 b1 b2 b3 h0 h1 h2 h3, HV.out]

/-- A guard: the next operation is a call of the builtin copy. It turns nothing. -/
theorem at_copy {P : Program} {w : World} {ops : Array Oper} {rest : List Oper} {o : Oper} {a : Act} {Q : Exit → Act → World → Prop} (d s : Operand) (dT sT : TypeId)
    (ho : o.op = .call { callee := .builtin .copy, args := #[d, s], argTypes := #[dT, sT] }) (h : wpList P ops Q (o :: rest) a w) : wpList P ops Q (o :: rest) a w := h

/-- A row of numbers in a block of its own. -/
def RowIn (w : World) (g : Nat) (zs : List Int) : Prop := w.heap[g]? = some (.cells (zs.map (Value.int .u8)).toArray 5 (0, 0))

theorem RowIn.lies {w : World} {g : Nat} {zs : List Int} (h : RowIn w g zs) : Lies w (some ⟨g, 0, none⟩) zs := by
  refine Or.inr ⟨g, 0, rfl, fun i hi => ?_⟩
  unfold RowIn at h
  simp [World.cell?, h, List.getD, hi]

theorem size_made (len : Nat) (z : Value) : (madeCells #[z] len).size = len := by simp [madeCells]
theorem splice_whole {α : Type} (L cs : List α) (h : L.length = cs.length) : splice L 0 cs = cs := by
  simp [splice, ← h]

/-- THE COPY INTO THE ROW THAT WAS MADE LAST. -/
theorem wpList_copy_clone {P : Program} (w : World) {ops : Array Oper} {rest : List Oper} {o : Oper} {a : Act} {Q : Exit → Act → World → Prop} (hgd : o.guard = none) (d s : Operand) (dT sT : TypeId)
    (ho : o.op = .call { callee := .builtin .copy, args := #[d, s], argTypes := #[dT, sT] }) (hu : P.underlying dT = some (.slice 5)) (hsz : (P.info? 5).map (·.size) = some 1)
    (sp : Option Addr) (len sCap : Nat) (hd : a.eval d = .slice (some ⟨w.heap.size, 0, none⟩) len len) (hs : a.eval s = .slice sp len sCap)
    (zs : List Int) (hz : Hid (zs.length = len)) (hl : Hid (Lies w sp zs))
    (h : ∀ w', RowIn w' w.heap.size zs → Below w.heap.size w w' → w.heap.size < w'.heap.size → wpList P ops Q rest (a.put o.dst (goInt len)) w') :
    wpList P ops Q (o :: rest) a (w.alloc (.cells (madeCells #[Value.int .u8 0] len) 5)) := by
  have hz' := hz.out
  have hb0 : Below w.heap.size w (w.alloc (.cells (madeCells #[Value.int .u8 0] len) 5)) := (Below.refl _ _).alloc (Nat.le_refl _) _
  refine wpList_copy_splice hgd d s dT sT ho 5 hu hsz (some ⟨w.heap.size, 0, none⟩) sp len len len sCap hd hs w.heap.size 0 (madeCells #[Value.int .u8 0] len).toList 5 ?_ (zs.map (Value.int .u8)) ?_ ?_ ?_ ?_ w.heap.size w hb0 (Nat.le_refl _) ?_
  · simpa using heap_alloc_new w (.cells (madeCells #[Value.int .u8 0] len) 5)
  · simp [hz']
  · intro hp
    refine ⟨rfl, ?_⟩
    rcases hl.out with h0 | ⟨b, off, rfl, hc⟩
    · subst h0; simp at hp
    · refine ⟨_, rfl, fun j v hj => ?_⟩
      simp only [List.getElem?_map, Option.map_eq_some_iff] at hj
      obtain ⟨x, hx, rfl⟩ := hj
      obtain ⟨hlt, hxe⟩ := List.getElem?_eq_some_iff.1 hx
      have h1 := hc j hlt
      have e : zs.getD j 0 = x := by simp [List.getD, hx]
      rw [e] at h1
      rw [Addr.add_lit, hb0.cell (p := ⟨b, off + j, none⟩) (World.block_lt_of_cell? w ⟨b, off + j, none⟩ h1)]
      exact h1
  · simp [size_made, hz']
  · exact ints_oneCell _ _
  · intro w' hg' hb'
    have e : splice (madeCells #[Value.int .u8 0] len).toList 0 (zs.map (Value.int .u8)) = zs.map (Value.int .u8) := splice_whole _ _ (by simp [size_made, hz'])
    have hrow : RowIn w' w.heap.size zs := by
      have := hg'.out
      rw [e] at this
      exact this
    have hlt : w.heap.size < w'.heap.size := by
      have h3 : w'.heap[w.heap.size]? = _ := hrow
      exact (Array.getElem?_eq_some_iff.1 h3).1
    have := h w' hrow hb' hlt
    simpa [hz'] using this

theorem clone_some (ad : Addr) (len cap : Nat) (zs : List Int) (w : World) (hz : zs.length = len) (hlen : len ≤ 1048576) (hl : Lies w (some ad) zs) :
    Calls Tryd.prog 8 #[.slice (some ad) len cap] w fun e w' => e = .returned (.slice (some ⟨w.heap.size, 0, none⟩) len len) ∧ Lies w' (some ⟨w.heap.size, 0, none⟩) zs ∧ Below w.heap.size w w' ∧ w.heap.size < w'.heap.size := by
  have hmk := run_make_row' (P := Tryd.prog) 22 5 (.int .u8 0) 1 Tryd.underlying22 Tryd.info5 rfl .i64 .i64 len (by omega) (by omega)
  have hne := fun w' : World => Lib.run_eql_slice_nil (P := Tryd.prog) w' 22 5 (some ad) len cap 0 0 Tryd.underlying22
  have HZ := Hid.mk hz
  have HL := Hid.mk hl
  clear hz hl
  go_enter Tryd.func8, Tryd.ntmps8
  go_wp2_with (with_reducible refine at_copy _ _ _ _ rfl ?_; refine wpList_copy_clone w rfl _ _ 22 22 rfl Tryd.underlying22 Tryd.size5 _ _ _ rfl rfl zs HZ HL ?_)
  intro w1 hrow0 hb1 hlt1
  have HR := Hid.mk hrow0
  have HB := Hid.mk hb1
  clear hrow0 hb1
  go_wp2
  go_ret
  exact ⟨rfl, HR.out.lies, HB.out, hlt1⟩

theorem clone_none (w : World) :
    Calls Tryd.prog 8 #[.slice none 0 0] w fun e w' => e = .returned (.slice none 0 0) ∧ w' = w := by
  have hne := fun w' : World => Lib.run_eql_slice_nil (P := Tryd.prog) w' 22 5 none 0 0 0 0 Tryd.underlying22
  go_enter Tryd.func8, Tryd.ntmps8
  go_wp2
  go_ret
  exact ⟨rfl, rfl⟩

set_option maxHeartbeats 400000 in
theorem same_any (a b : Option Addr) (len ca cb : Nat) (zs : List Int) (w : World) (hz : zs.length = len) (hlen : len ≤ 1048576) (ha : Lies w a zs) (hb : Lies w b zs) :
    Calls Tryd.prog 11 #[.slice a len ca, .slice b len cb] w fun e w' => e = .returned (.bool true) ∧ ∃ n, w' = w.drewN n := by
  by_cases h0 : len = 0
  · subst h0
    go_enter Tryd.func11, Tryd.ntmps11
    go_wp2
    refine wp_loop_rounds 1 ?_; rw [rounds_succ]
    go_wp2
    go_ret
    exact ⟨rfl, 0, rfl⟩
  · obtain ⟨b1, o1, rfl, c1⟩ := ha.at (by omega)
    obtain ⟨b2, o2, rfl, c2⟩ := hb.at (by omega)
    have HZ := Hid.mk hz
    have C1 := Hid.mk c1
    have C2 := Hid.mk c2
    clear ha hb hz c1 c2 h0
    go_enter Tryd.func11, Tryd.ntmps11
    go_wp2
    go_loopw [5] (fun i wr => ∃ k m : Nat, k ≤ len ∧ i = .int .i64 k ∧ wr = w.drewN m) (fun i _ => len - (intOf i).toNat)
    case atStart => exact ⟨0, 0, Nat.zero_le _, rfl, rfl⟩
    case round =>
      obtain ⟨k, m, hk, rfl, rfl⟩ := hrel
      by_cases hlt : k < len
      · have e1 := C1.out k (by rw [HZ.out]; exact hlt)
        have e2 := C2.out k (by rw [HZ.out]; exact hlt)
        generalize zs.getD k 0 = c at *
        have hlt' : (k : Int) < (len : Int) := by omega
        go_wp2
        go_quiet (fail)
        go_wp2
        go_roundw
        case rel => exact ⟨k + 1, _, by omega, by go_num, rfl⟩
        case measure => simp [intOf]; omega
      · go_wp2
        go_ret
        exact ⟨rfl, _, rfl⟩

/-- ZZnext: what next answers. -/
theorem zznext_ok (K : Cfg) (gF p : Nat) (mx : Int) (w : World) (h : Calls Tryd.prog 17 #[.pointer (some ⟨gF, 0, none⟩)] w fun e w' => NextDone K p mx w w' e) :
    Calls Tryd.prog 10 #[.pointer (some ⟨gF, 0, none⟩)] w fun e w' => NextDone K p mx w w' e := by
  have H := Hid.mk h
  clear h
  go_enter Tryd.func10, Tryd.ntmps10
  go_wp2_with fail
  refine H.out.mono ?_
  rintro e w' ⟨hk, ⟨h1, h2, n, g, o, c, h3, h4, rfl, h5⟩ | ⟨h1, t, a, rfl⟩⟩
  · have HK := Hid.mk hk
    have H3 := Hid.mk h3
    have H5 := Hid.mk h5
    clear hk h3 h5
    go_wp2
    go_ret2
    exact ⟨HK.out, Or.inl ⟨h1, h2, n, g, o, c, H3.out, h4, rfl, H5.out⟩⟩
  · have HK := Hid.mk hk
    have H1 := Hid.mk h1
    clear hk h1
    go_wp2
    go_ret2
    exact ⟨HK.out, Or.inr ⟨H1.out, t, a, rfl⟩⟩
end Go.Proofs.Qxb6606225aDoor
