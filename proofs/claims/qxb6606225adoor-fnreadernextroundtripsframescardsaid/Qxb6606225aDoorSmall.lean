/-
  The walks of the small methods of bufio.Reader: readErr, Buffered, Size, Discard (of what is buffered).
-/
import Derived.Test.Qxb6606225aDoorFill
import Derived.Lib.EndianBits
namespace Go.Proofs.Qxb6606225aDoor
open Go.ChangeShapes Go.WideShapes Go.ChangeAt Go.RowKit
set_option linter.unusedVariables false
set_option linter.unusedSimpArgs false

theorem readErr_any (K : Cfg) (ok : K.Ok) (r wd i p : Nat) (err : Value) (w : World) (hs : Br K w r wd i p err) :
    Calls Tryd.prog 27 #[.pointer (some ⟨K.gR, 0, none⟩)] w fun e w' => e = .returned err ∧ Br K w' r wd i p .nilIface ∧ Kp K.X w w' := by
  have HS := Hid.mk hs
  have OK := Hid.mk ok
  have b4 := hs.b4
  have f4 := hs.fz 4
  have her := hs.er
  clear hs ok
  rcases her with rfl | ⟨rfl, hi⟩
  all_goals
    go_enter Tryd.func27, Tryd.ntmps27
    go_wp2
    go_ret
    exact ⟨rfl, HS.out.setErr OK.out _ (Or.inl rfl), (Kp.refl _ _).setCell (Or.inr (Or.inl rfl)) _⟩

theorem buffered_any (K : Cfg) (ok : K.Ok) (r wd i p : Nat) (err : Value) (w : World) (hs : Br K w r wd i p err) :
    Calls Tryd.prog 28 #[.pointer (some ⟨K.gR, 0, none⟩)] w fun e w' => e = .returned (.int .i64 ((wd : Int) - (r : Int))) ∧ ∃ n, w' = w.drewN n := by
  have b2 := hs.b2
  have b3 := hs.b3
  have h1 := hs.rw
  have h2 := hs.w4
  have h3 := ok.B2
  clear hs ok
  have hwrap : IntKind.i64.wrap ((wd : Int) - (r : Int)) = (wd : Int) - (r : Int) := by rw [IntKind.wrap_i64]; omega
  go_enter Tryd.func28, Tryd.ntmps28
  go_wp2
  go_quiet (fail)
  go_wp2
  go_ret
  exact ⟨rfl, _, rfl⟩

theorem size_any (K : Cfg) (r wd i p : Nat) (err : Value) (w : World) (hs : Br K w r wd i p err) :
    Calls Tryd.prog 20 #[.pointer (some ⟨K.gR, 0, none⟩)] w fun e w' => e = .returned (.int .i64 K.B) ∧ w' = w := by
  have b0 := hs.b0
  clear hs
  go_enter Tryd.func20, Tryd.ntmps20
  go_wp2
  go_ret
  exact ⟨rfl, rfl⟩

set_option maxRecDepth 100000 in
set_option maxHeartbeats 1000000 in
/-- Discard of n bytes that are buffered. -/
theorem discard_any (K : Cfg) (ok : K.Ok) (r wd i p n : Nat) (err : Value) (w : World) (hs : Br K w r wd i p err) (hn : r + n ≤ wd) :
    Calls Tryd.prog 22 #[.pointer (some ⟨K.gR, 0, none⟩), .int .i64 n] w fun e w' => (∃ v, e = .returned v) ∧ Br K w' (r + n) wd i (p + n) err ∧ Kp (fun k => k = K.gR) w w' := by
  have HS := Hid.mk hs
  have OK := Hid.mk ok
  have h1 := hs.rw
  have h2 := hs.w4
  have h3 := ok.B2
  obtain ⟨x5, b5⟩ := hs.b5
  obtain ⟨x6, b6⟩ := hs.b6
  have b2 := hs.b2
  have f5 := hs.fz 5
  have f6 := hs.fz 6
  have f2 := hs.fz 2
  clear hs ok
  by_cases h0 : n = 0
  · subst h0
    go_enter Tryd.func22, Tryd.ntmps22
    go_wp2
    go_ret2
    exact ⟨⟨_, rfl⟩, by simpa using HS.out, Kp.refl _ _⟩
  · have hn0 : 0 < n := by omega
    go_enter Tryd.func22, Tryd.ntmps22
    go_wp2
    have HS1 := Hid.mk ((HS.out.setLast OK.out 5 (Or.inl rfl) (-1)).setLast OK.out 6 (Or.inr rfl) (-1))
    have HK1 : Hid (Kp (fun k => k = K.gR) w ((w.setCell ⟨K.gR, 5, none⟩ (.int .i64 (-1))).setCell ⟨K.gR, 6, none⟩ (.int .i64 (-1)))) := (Br.kpR 5 _).trans (Br.kpR 6 _)
    generalize (w.setCell ⟨K.gR, 5, none⟩ (.int .i64 (-1))).setCell ⟨K.gR, 6, none⟩ (.int .i64 (-1)) = w1 at *
    refine wp_loop_rounds 1 ?_; rw [rounds_succ]
    go_wp2_with fail
    refine (buffered_any K OK.out r wd i p err w1 HS1.out).mono ?_
    rintro e w2 ⟨rfl, m, rfl⟩
    have c2 := HS1.out.b2
    have g2 := HS1.out.fz 2
    by_cases hlt : n < wd - r
    · go_wp2
      go_ret2
      exact ⟨⟨_, rfl⟩, (HS1.out.drewN OK.out m).setR OK.out n hn, (HK1.out.drewN _).trans (Br.kpR 2 _)⟩
    · have hlt' : (wd : Int) - (r : Int) = n := by omega
      rw [hlt']
      clear hlt'
      go_wp2
      go_ret2
      exact ⟨⟨_, rfl⟩, (HS1.out.drewN OK.out m).setR OK.out n hn, (HK1.out.drewN _).trans (Br.kpR 2 _)⟩

theorem or32 (b0 b1 b2 b3 : Int) (h0 : 0 ≤ b0 ∧ b0 ≤ 255) (h1 : 0 ≤ b1 ∧ b1 ≤ 255) (h2 : 0 ≤ b2 ∧ b2 ≤ 255) (h3 : 0 ≤ b3 ∧ b3 ≤ 255) :
    bits .or .u32 (bits .or .u32 (bits .or .u32 b0 (b1 * 256)) (b2 * 65536)) (b3 * 16777216) = b0 + b1 * 256 + b2 * 65536 + b3 * 16777216 := by
  rw [u32_or8 (y := b0) (x := b1 * 256) (by omega) (by omega) (by omega) (by omega) (by omega), u32_or16 (y := b0 + b1 * 256) (x := b2 * 65536) (by omega) (by omega) (by omega) (by omega) (by omega), u32_or24 (y := b0 + b1 * 256 + b2 * 65536) (x := b3 * 16777216) (by omega) (by omega) (by omega) (by omega) (by omega)]
theorem or64 (b0 b1 b2 b3 : Int) (h0 : 0 ≤ b0 ∧ b0 ≤ 255) (h1 : 0 ≤ b1 ∧ b1 ≤ 255) (h2 : 0 ≤ b2 ∧ b2 ≤ 255) (h3 : 0 ≤ b3 ∧ b3 ≤ 255) :
    bits .or .u64 (bits .or .u64 (bits .or .u64 b0 (b1 * 256)) (b2 * 65536)) (b3 * 16777216) = b0 + b1 * 256 + b2 * 65536 + b3 * 16777216 := by
  rw [u64_or8 (y := b0) (x := b1 * 256) (by omega) (by omega) (by omega) (by omega) (by omega), u64_or16 (y := b0 + b1 * 256) (x := b2 * 65536) (by omega) (by omega) (by omega) (by omega) (by omega), u64_or24 (y := b0 + b1 * 256 + b2 * 65536) (x := b3 * 16777216) (by omega) (by omega) (by omega) (by omega) (by omega)]

set_option maxRecDepth 100000 in
set_option maxHeartbeats 2000000 in
theorem uint32_any (g o n c : Nat) (b0 b1 b2 b3 : Int) (w : World) (hn : 4 ≤ n) (h0 : 0 ≤ b0 ∧ b0 ≤ 255) (h1 : 0 ≤ b1 ∧ b1 ≤ 255) (h2 : 0 ≤ b2 ∧ b2 ≤ 255) (h3 : 0 ≤ b3 ∧ b3 ≤ 255)
    (c0 : w.cell? ⟨g, o, none⟩ = some (.int .u8 b0)) (c1 : w.cell? ⟨g, o + 1, none⟩ = some (.int .u8 b1)) (c2 : w.cell? ⟨g, o + 2, none⟩ = some (.int .u8 b2)) (c3 : w.cell? ⟨g, o + 3, none⟩ = some (.int .u8 b3)) :
    Calls Tryd.prog 25 #[.agg #[], .slice (some ⟨g, o, none⟩) n c] w fun e w' => e = .returned (.int .u32 (b0 + b1 * 256 + b2 * 65536 + b3 * 16777216)) ∧ Kp (fun _ => False) w w' := by
  have hk : Kp (fun _ => False) w (w.alloc (.cells #[] 66)) := (Kp.refl _ _).alloc _
  have e0 := hk.cell (fun h => h) c0
  have e1 := hk.cell (fun h => h) c1
  have e2 := hk.cell (fun h => h) c2
  have e3 := hk.cell (fun h => h) c3
  have i0 : (0 : Int) < (n : Int) := by omega
  have i1 : (1 : Int) < (n : Int) := by omega
  have i2 : (2 : Int) < (n : Int) := by omega
  have i3 : (3 : Int) < (n : Int) := by omega
  have HK := Hid.mk hk
  clear hk
  go_enter Tryd.func25, Tryd.ntmps25
  go_wp2
  go_quiet (fail)
  go_wp2
  go_ret
  refine ⟨?_, HK.out.drewN _⟩
  show Ending.returned (.int .u32 (bits .or .u32 (bits .or .u32 (bits .or .u32 b0 (b1 * 256)) (b2 * 65536)) (b3 * 16777216))) = _
  rw [or32 b0 b1 b2 b3 h0 h1 h2 h3]

end Go.Proofs.Qxb6606225aDoor
