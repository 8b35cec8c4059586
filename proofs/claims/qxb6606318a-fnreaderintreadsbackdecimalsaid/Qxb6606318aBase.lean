/-
  Rows of bytes; the walks of zzClone and zzEqual.
-/
import Derived.Test.Qxb6606318aRows
import Derived.WalkKit
import Derived.ProofKit
import Derived.Below
import Derived.Outline
import Derived.Deep.OwnRows
import Derived.WalkSpells
import Derived.Deep.QuietTactic
import Derived.BigQuiet
namespace Go.Proofs.Qxb6606318a
open Go.ChangeShapes Go.WideShapes Go.ChangeAt Go.RowKit
set_option linter.unusedVariables false
set_option linter.unusedSimpArgs false

theorem Hid.mk {p : Prop} (h : p) : Hid p := h
theorem Try.info5 : (Try.prog.info? 5).map (fun i => (i.zero, i.size, i.bytes)) = some (some (.int .u8 0), 1, 1) := by kernel_rfl
theorem ret_bool {a b : Bool} (h : a = b) : Ending.returned (.bool a) = .returned (.bool b) := by rw [h]

/-- The numbers 'zs' lie behind the address 'a' (of an empty row nothing is said). -/
def Lies (w : World) (a : Option Addr) (zs : List Int) : Prop :=
  zs = [] ∨ ∃ b off, a = some ⟨b, off, none⟩ ∧ ∀ i, i < zs.length → w.cell? ⟨b, off + i, none⟩ = some (.int .u8 (zs.getD i 0))

theorem Lies.below {w w' : World} {a : Option Addr} {zs : List Int} (h : Lies w a zs) (hb : Below w.heap.size w w') : Lies w' a zs := by
  rcases h with h | ⟨b, off, ha, hc⟩
  · exact Or.inl h
  · refine Or.inr ⟨b, off, ha, fun i hi => ?_⟩
    have hx := hc i hi
    rw [hb.cell (p := ⟨b, off + i, none⟩) (World.block_lt_of_cell? w _ hx)]
    exact hx

theorem Lies.at {w : World} {a : Option Addr} {zs : List Int} (h : Lies w a zs) (hp : 0 < zs.length) : ∃ b off, a = some ⟨b, off, none⟩ ∧ ∀ i, i < zs.length → w.cell? ⟨b, off + i, none⟩ = some (.int .u8 (zs.getD i 0)) := by
  rcases h with h | h
  · subst h; simp at hp
  · exact h

theorem lies_row {w : World} {g n : Nat} {f : Nat → Value} {zs : List Int} (h : w.rowIs g 5 n f) (off : Nat) (hz : off + zs.length ≤ n) (e : ∀ i, i < zs.length → f (off + i) = .int .u8 (zs.getD i 0)) : Lies w (some ⟨g, off, none⟩) zs := by
  refine Or.inr ⟨g, off, rfl, fun i hi => ?_⟩
  rw [h.cell (by omega), e i hi]

theorem rowIs_below {w w' : World} {g n B : Nat} {t : TypeId} {f : Nat → Value} (h : w.rowIs g t n f) (hb : Below B w w') (hg : g < B) : w'.rowIs g t n f := h.of_block (hb.block g hg)

set_option maxHeartbeats 400000 in
theorem clone_some (ad : Addr) (len cap : Nat) (zs : List Int) (w : World) (hz : zs.length = len) (hlen : len ≤ 1048576) (hl : Lies w (some ad) zs) :
    Calls Try.prog 9 #[.slice (some ad) len cap] w fun e w' => e = .returned (.slice (some ⟨w.heap.size, 0, none⟩) len len) ∧ Lies w' (some ⟨w.heap.size, 0, none⟩) zs ∧ Below w.heap.size w w' := by
  have hmk := run_make_row' (P := Try.prog) 22 5 (.int .u8 0) 1 Try.underlying22 Try.info5 rfl .i64 .i64 len (by omega) (by omega)
  have hne := fun w' : World => Lib.run_eql_slice_nil (P := Try.prog) w' 22 5 (some ad) len cap 0 0 Try.underlying22
  have HZ : Hid (zs.length = len) := hz
  have HL : Hid (Lies w (some ad) zs) := hl
  clear hz hl
  have hrow0 := Hid.mk (World.rowIs_made w (.int .u8 0) len 5)
  have hb0 : Below w.heap.size w (w.alloc (.cells (madeCells #[Value.int .u8 0] len) 5)) := (Below.refl _ _).alloc (Nat.le_refl _) _
  go_enter Try.func9, Try.ntmps9
  go_wp2
  go_loopw [4] (fun i wr => ∃ k : Nat, k ≤ len ∧ i = .int .i64 k ∧ Hid (wr.rowIs w.heap.size 5 len (fun j => .int .u8 (if j < k then zs.getD j 0 else 0))) ∧ Below w.heap.size w wr) (fun i _ => len - (intOf i).toNat)
  case atStart => exact ⟨0, Nat.zero_le _, rfl, hrow0.out.congr (fun i hi => by simp), hb0⟩
  case round =>
    obtain ⟨k, hk, rfl, hrow, hb⟩ := hrel
    by_cases hlt : k < len
    · have hkz : k < zs.length := by rw [HZ.out]; exact hlt
      obtain ⟨b, off, rfl, hc⟩ : ∃ b off, ad = ⟨b, off, none⟩ ∧ ∀ i, i < zs.length → wr.cell? ⟨b, off + i, none⟩ = some (.int .u8 (zs.getD i 0)) := by
        obtain ⟨b, off, ha, hc⟩ := (HL.out.below hb).at (by omega)
        exact ⟨b, off, Option.some.inj ha, hc⟩
      have hcell := hc k hkz
      have hd := hrow.out.cell hlt
      have hfz := hrow.out.frozen k
      have R1 := Hid.mk (hrow.out.set k (.int .u8 (zs.getD k 0)))
      clear hc hkz
      generalize hx : zs.getD k 0 = c at *
      have HX := Hid.mk hx
      clear hx
      go_wp2
      go_roundw
      case rel =>
        refine ⟨k + 1, by omega, by go_num, ?_, hb.setCell (Nat.le_refl _) _⟩
        refine R1.out.congr fun j hj => ?_
        by_cases e : j = k
        · subst e; rw [if_pos rfl, if_pos (by omega), HX.out]
        · simp only [if_neg e]
          by_cases h : j < k
          · rw [if_pos h, if_pos (by omega)]
          · rw [if_neg h, if_neg (by omega)]
      case measure => simp [intOf]; omega
    · go_wp2
      go_ret
      refine ⟨rfl, ?_, hb⟩
      refine lies_row hrow.out 0 (by rw [HZ.out]; omega) fun i hi => ?_
      rw [HZ.out] at hi
      simp only [Nat.zero_add]
      rw [if_pos (by omega)]

theorem clone_none (w : World) :
    Calls Try.prog 9 #[.slice none 0 0] w fun e w' => e = .returned (.slice none 0 0) ∧ w' = w := by
  have hne := fun w' : World => Lib.run_eql_slice_nil (P := Try.prog) w' 22 5 none 0 0 0 0 Try.underlying22
  go_enter Try.func9, Try.ntmps9
  go_wp2
  go_ret
  exact ⟨rfl, rfl⟩

theorem drewN_cell (w : World) (n : Nat) (a : Addr) : (w.drewN n).cell? a = w.cell? a := rfl

set_option maxHeartbeats 400000 in
theorem equal_same (a b : Option Addr) (len ca cb : Nat) (zs : List Int) (w : World) (hz : zs.length = len) (hlen : len ≤ 1048576) (ha : Lies w a zs) (hb : Lies w b zs) :
    Calls Try.prog 13 #[.slice a len ca, .slice b len cb] w fun e w' => e = .returned (.bool true) ∧ ∃ n, w' = w.drewN n := by
  by_cases h0 : len = 0
  · subst h0
    go_enter Try.func13, Try.ntmps13
    go_wp2
    refine wp_loop_rounds 1 ?_; rw [rounds_succ]
    go_wp2
    go_ret
    exact ⟨rfl, 0, rfl⟩
  · obtain ⟨b1, o1, rfl, c1⟩ := ha.at (by omega)
    obtain ⟨b2, o2, rfl, c2⟩ := hb.at (by omega)
    have HZ := Hid.mk hz
    have C1 := Hid.mk c1
    have C2 := Hid.mk c2
    clear ha hb hz c1 c2 h0
    go_enter Try.func13, Try.ntmps13
    go_wp2
    go_loopw [5] (fun i wr => ∃ k m : Nat, k ≤ len ∧ i = .int .i64 k ∧ wr = w.drewN m) (fun i _ => len - (intOf i).toNat)
    case atStart => exact ⟨0, 0, Nat.zero_le _, rfl, rfl⟩
    case round =>
      obtain ⟨k, m, hk, rfl, rfl⟩ := hrel
      by_cases hlt : k < len
      · have e1 := C1.out k (by rw [HZ.out]; exact hlt)
        have e2 := C2.out k (by rw [HZ.out]; exact hlt)
        generalize zs.getD k 0 = c at *
        have hlt' : (k : Int) < (len : Int) := by omega
        go_wp2
        go_quiet (fail)
        go_wp2
        go_roundw
        case rel => exact ⟨k + 1, _, by omega, by go_num, rfl⟩
        case measure => simp [intOf]; omega
      · go_wp2
        go_ret
        exact ⟨rfl, _, rfl⟩
end Go.Proofs.Qxb6606318a
