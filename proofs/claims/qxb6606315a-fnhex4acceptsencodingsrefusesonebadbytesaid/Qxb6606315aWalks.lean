/-
  The walks of the shared functions: hex4, ZZhex4, isHexByte, hexChar.
-/
import Derived.Test.Qxb6606315aRows
import Derived.WalkKit
import Derived.ProofKit
import Derived.Below
import Derived.Outline
namespace Go.Proofs.Qxb6606315a
open Go.ChangeShapes Go.WideShapes Go.ChangeAt Go.RowKit
set_option linter.unusedVariables false

/-- A hexadecimal digit. -/
def hexB (n : Int) : Bool := decide ((48 ≤ n ∧ n ≤ 57) ∨ (97 ≤ n ∧ n ≤ 102) ∨ (65 ≤ n ∧ n ≤ 70))

/-- The numbers 'zs' lie behind the address 'a' (of an empty row nothing is said). -/
def Lies (w : World) (a : Option Addr) (zs : List Int) : Prop :=
  zs = [] ∨ ∃ b off, a = some ⟨b, off, none⟩ ∧ ∀ i, i < zs.length → w.cell? ⟨b, off + i, none⟩ = some (.int .u8 (zs.getD i 0))

theorem take_all (zs : List Int) (k : Nat) (h : k < zs.length) (p : Int → Bool) : (zs.take (k + 1)).all p = ((zs.take k).all p && p (zs.getD k 0)) := by
  rw [List.take_succ_eq_append_getElem h, List.all_append]
  simp [List.getD, h]

theorem all_false (zs : List Int) (k : Nat) (h : k < zs.length) (p : Int → Bool) (hp : p (zs.getD k 0) = false) : zs.all p = false := by
  rw [List.all_eq_false]
  refine ⟨zs[k], List.getElem_mem h, ?_⟩
  have e : zs.getD k 0 = zs[k] := by simp [List.getD, h]
  rw [← e, hp]; simp

theorem ret_bool {a b : Bool} (h : a = b) : Ending.returned (.bool a) = .returned (.bool b) := by rw [h]

set_option maxHeartbeats 400000 in
theorem hex4_any (a : Option Addr) (len cap : Nat) (zs : List Int) (w : World) (hz : zs.length = len) (hm : len ≤ 1048576) (hl : Lies w a zs) :
    Calls Try.prog 11 #[.slice a len cap] w fun e w' => e = .returned (.bool (zs.all hexB)) ∧ w' = w := by
  by_cases h0 : len = 0
  · obtain rfl : zs = [] := List.eq_nil_of_length_eq_zero (by omega)
    subst h0
    clear hl hz hm
    go_enter Try.func11, Try.ntmps11
    go_wp2
    refine wp_loop_rounds 1 ?_; rw [rounds_succ]
    go_wp2
    go_ret
    exact ⟨rfl, rfl⟩
  · obtain ⟨b, off, rfl, hc⟩ : ∃ b off, a = some ⟨b, off, none⟩ ∧ ∀ i, i < zs.length → w.cell? ⟨b, off + i, none⟩ = some (.int .u8 (zs.getD i 0)) := by
      rcases hl with h | h
      · subst h; simp at hz; omega
      · exact h
    clear hl h0
    have HZ : Hid (zs.length = len) := hz
    have HC : Hid (∀ i, i < zs.length → w.cell? ⟨b, off + i, none⟩ = some (.int .u8 (zs.getD i 0))) := hc
    clear hz hc
    go_enter Try.func11, Try.ntmps11
    go_wp2
    go_loop [7] (fun i => ∃ k : Nat, k ≤ len ∧ i = .int .i64 k ∧ Hid ((zs.take k).all hexB = true)) (fun i => len - (intOf i).toNat)
    case atStart => exact ⟨0, Nat.zero_le _, rfl, by simp [Hid]⟩
    case round =>
      obtain ⟨k, hk, rfl, hall⟩ := hrel
      by_cases hlt : k < len
      · have hkz : k < zs.length := by rw [HZ.out]; exact hlt
        obtain ⟨c, hc⟩ : ∃ c, c = zs.getD k 0 := ⟨_, rfl⟩
        have hcell : w.cell? ⟨b, off + k, none⟩ = some (.int .u8 c) := by rw [hc]; exact HC.out k hkz
        have HCC : Hid (c = zs.getD k 0) := hc
        clear hc
        by_cases hh : hexB c = true
        · have step : Hid ((zs.take (k + 1)).all hexB = true) := by
            show _ = _
            rw [take_all zs k hkz, hall.out, ← HCC.out, hh]; rfl
          have hr : (48 ≤ c ∧ c ≤ 57) ∨ (97 ≤ c ∧ c ≤ 102) ∨ (65 ≤ c ∧ c ≤ 70) := of_decide_eq_true hh
          clear hh hkz hall
          rcases hr with ⟨h1, h2⟩ | ⟨h1, h2⟩ | ⟨h1, h2⟩
          all_goals
            go_wp2
            go_round
            case rel => exact ⟨k + 1, by omega, by go_num, step⟩
            case measure => simp [intOf]; omega
        · have hf : zs.all hexB = false := all_false zs k hkz hexB (by rw [← HCC.out]; simpa using hh)
          have HF : Hid (zs.all hexB = false) := hf
          have hr : ¬ ((48 ≤ c ∧ c ≤ 57) ∨ (97 ≤ c ∧ c ≤ 102) ∨ (65 ≤ c ∧ c ≤ 70)) := fun h => hh (decide_eq_true h)
          clear hh hf hkz hall
          rcases (show c < 48 ∨ (57 < c ∧ c < 65) ∨ (70 < c ∧ c < 97) ∨ 102 < c by omega) with h1 | ⟨h1, h2⟩ | ⟨h1, h2⟩ | h1
          · clear hr
            go_wp2
            go_ret
            exact ⟨ret_bool HF.out.symm, rfl⟩
          · have d1 : decide (c ≤ 57) = false := by simp; omega
            clear hr
            go_wp2
            go_ret
            exact ⟨ret_bool HF.out.symm, rfl⟩
          · have d1 : decide (c ≤ 57) = false := by simp; omega
            have d2 : decide (c ≤ 70) = false := by simp; omega
            clear hr
            go_wp2
            go_ret
            exact ⟨ret_bool HF.out.symm, rfl⟩
          · have d1 : decide (c ≤ 57) = false := by simp; omega
            have d2 : decide (c ≤ 70) = false := by simp; omega
            have d3 : decide (c ≤ 102) = false := by simp; omega
            clear hr
            go_wp2
            go_ret
            exact ⟨ret_bool HF.out.symm, rfl⟩
      · go_wp2
        go_ret
        refine ⟨ret_bool ?_, rfl⟩
        have := hall.out
        rw [List.take_of_length_le (by rw [HZ.out]; omega)] at this
        exact this.symm

def hexL : List Int := [48, 49, 50, 51, 52, 53, 54, 55, 56, 57, 97, 98, 99, 100, 101, 102, 65, 66, 67, 68, 69, 70]
def hexS : ByteArray := { data := #[48, 49, 50, 51, 52, 53, 54, 55, 56, 57, 97, 98, 99, 100, 101, 102, 65, 66, 67, 68, 69, 70] }

theorem hexS_fin : ∀ k : Fin 22, ((hexS.data[k.val]'(by have := k.isLt; exact this)).toNat : Int) = hexL.getD k.val 0 := by decide
theorem hexS_at (k : Nat) (h : k < hexS.size) : ((hexS[k]'h).toNat : Int) = hexL.getD k 0 := hexS_fin ⟨k, h⟩
theorem hexL_hit : ∀ k : Fin 22, hexB (hexL.getD k.val 0) = true := by decide
theorem hexL_miss (c : Int) (h : ∀ j, j < 22 → hexL.getD j 0 ≠ c) : hexB c = false := by
  cases hb : hexB c with
  | false => rfl
  | true =>
    exfalso
    have hr : (48 ≤ c ∧ c ≤ 57) ∨ (97 ≤ c ∧ c ≤ 102) ∨ (65 ≤ c ∧ c ≤ 70) := of_decide_eq_true hb
    have g0 : (48 : Int) ≠ c := h 0 (by omega)
    have g1 : (49 : Int) ≠ c := h 1 (by omega)
    have g2 : (50 : Int) ≠ c := h 2 (by omega)
    have g3 : (51 : Int) ≠ c := h 3 (by omega)
    have g4 : (52 : Int) ≠ c := h 4 (by omega)
    have g5 : (53 : Int) ≠ c := h 5 (by omega)
    have g6 : (54 : Int) ≠ c := h 6 (by omega)
    have g7 : (55 : Int) ≠ c := h 7 (by omega)
    have g8 : (56 : Int) ≠ c := h 8 (by omega)
    have g9 : (57 : Int) ≠ c := h 9 (by omega)
    have g10 : (97 : Int) ≠ c := h 10 (by omega)
    have g11 : (98 : Int) ≠ c := h 11 (by omega)
    have g12 : (99 : Int) ≠ c := h 12 (by omega)
    have g13 : (100 : Int) ≠ c := h 13 (by omega)
    have g14 : (101 : Int) ≠ c := h 14 (by omega)
    have g15 : (102 : Int) ≠ c := h 15 (by omega)
    have g16 : (65 : Int) ≠ c := h 16 (by omega)
    have g17 : (66 : Int) ≠ c := h 17 (by omega)
    have g18 : (67 : Int) ≠ c := h 18 (by omega)
    have g19 : (68 : Int) ≠ c := h 19 (by omega)
    have g20 : (69 : Int) ≠ c := h 20 (by omega)
    have g21 : (70 : Int) ≠ c := h 21 (by omega)
    omega

set_option maxHeartbeats 400000 in
theorem isHex_any (c : Int) (w : World) :
    Calls Try.prog 7 #[.int .u8 c] w fun e w' => e = .returned (.bool (hexB c)) ∧ w' = w := by
  go_enter Try.func7, Try.ntmps7
  go_wp2
  go_loop [3] (fun i => ∃ k : Nat, k ≤ 22 ∧ i = .int .i64 k ∧ Hid (∀ j, j < k → hexL.getD j 0 ≠ c)) (fun i => 22 - (intOf i).toNat)
  case atStart => exact ⟨0, Nat.zero_le _, rfl, fun j hj => by omega⟩
  case round =>
    obtain ⟨k, hk, rfl, hno⟩ := hrel
    by_cases hlt : k < 22
    · go_wp2
      · have ht : (hexL.getD k 0 == c) = true := by rw [← hexS_at k hlt]; assumption
        go_ret
        refine ⟨ret_bool ?_, rfl⟩
        rw [beq_iff_eq] at ht
        rw [← ht]
        exact (hexL_hit ⟨k, hlt⟩).symm
      · have ht : (hexL.getD k 0 == c) = false := by rw [← hexS_at k hlt]; assumption
        have hne : hexL.getD k 0 ≠ c := by simpa using ht
        go_round
        case rel => exact ⟨k + 1, by omega, by go_num, fun j hj => by
          rcases Nat.lt_succ_iff_lt_or_eq.1 hj with h | h
          · exact hno.out j h
          · rw [h]; exact hne⟩
        case measure => simp [intOf]; omega
    · obtain rfl : k = 22 := by omega
      go_wp2
      go_ret
      exact ⟨ret_bool (hexL_miss c hno.out).symm, rfl⟩

theorem zzhex4_any (a : Option Addr) (len cap : Nat) (zs : List Int) (w : World) (hz : zs.length = len) (hm : len ≤ 1048576) (hl : Lies w a zs) :
    Calls Try.prog 8 #[.slice a len cap] w fun e w' => e = .returned (.bool (zs.all hexB)) ∧ w' = w := by
  have H := hex4_any a len cap zs w hz hm hl
  have HH : Hid (Calls Try.prog 11 #[.slice a len cap] w fun e w' => e = .returned (.bool (zs.all hexB)) ∧ w' = w) := H
  clear H hz hm hl
  go_enter Try.func8, Try.ntmps8
  go_wp2_with fail
  refine HH.out.mono ?_
  rintro e w' ⟨rfl, rfl⟩
  go_wp2
  go_ret
  exact ⟨rfl, rfl⟩

end Go.Proofs.Qxb6606315a
