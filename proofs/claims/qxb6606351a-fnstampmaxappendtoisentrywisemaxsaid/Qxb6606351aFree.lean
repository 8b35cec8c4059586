/-
  The walk of zzFreeAfter.
-/
import Derived.Test.Qxb6606351aPlain
import Derived.Test.Qxb6606351aDom
namespace Go.Proofs.Qxb6606351a
open Go.ChangeShapes Go.WideShapes Go.ChangeAt Go.RowKit
set_option linter.unusedVariables false
set_option linter.unusedSimpArgs false

theorem ret_i64 {a b : Int} (h : a = b) : Ending.returned (.int .i64 a) = .returned (.int .i64 b) := by rw [h]

/-- How many rooms are free behind appendTo. -/
def roomsOf (F : Nat → Bool) (f n : Nat) : Nat := frm F f n + (if ownF F n = true then 1 else 0)

theorem lw_range (F : Nat → Bool) (h : Nat) : -1 ≤ lw F h ∧ lw F h < h := by
  rcases rooms F 0 h with ⟨a, _⟩ | ⟨a, b, _⟩ | ⟨a, b, _⟩ <;> omega

set_option maxRecDepth 100000 in
set_option maxHeartbeats 1000000 in
theorem free_any (f n cap : Nat) (a : Option Addr) (F : Nat → Bool) (w : World) (hf : f ≤ 65536) (hn : n ≤ 65536) (hB : BoolsIn w a n F) :
    Calls Try.prog 21 #[.int .i64 f, .slice a n cap] w fun e w' => e = .returned (.int .i64 (roomsOf F f n)) ∧ w' = w := by
  have HB := Hid.mk hB
  clear hB
  go_enter Try.func21, Try.ntmps21
  go_wp2
  go_loopw [5, 6, 7] (fun x y z wr => ∃ (h k : Nat) (l : Int), h ≤ n ∧ x = .int .i64 k ∧ y = .int .i64 l ∧ z = .int .i64 h ∧ wr = w ∧ Hid (kk F h = k) ∧ Hid (lw F h = l)) (fun _ _ z _ => n - (intOf z).toNat)
  case atStart => exact ⟨0, 0, -1, Nat.zero_le _, rfl, rfl, rfl, rfl, rfl, rfl⟩
  case round =>
    obtain ⟨h, k, l, hh, rfl, rfl, rfl, hwr, hk, hl⟩ := hrel
    obtain rfl : w = wr := hwr.symm
    have hkb : k ≤ h := by rw [← hk.out]; exact kk_le F h
    have hlb : -1 ≤ l ∧ l < h := by rw [← hl.out]; exact lw_range F h
    obtain ⟨hl1, hl2⟩ := hlb
    by_cases hlt : h < n
    · have hlt' : (h : Int) < (n : Int) := by omega
      obtain ⟨b, o, rfl, hc⟩ := HB.out (by omega)
      have cB := hc h hlt
      clear hc
      cases hu : F h with
      | false =>
        rw [hu] at cB
        have HU := Hid.mk hu
        clear hu
        go_wp2
        go_roundw
        case rel => exact ⟨h + 1, k, l, by omega, rfl, rfl, by go_num, by first | trivial | rfl, by have := HU.out; simp [Hid, kk, this, hk.out], by have := HU.out; simp [Hid, lw, this, hl.out]⟩
        case measure => simp [intOf]; omega
      | true =>
        rw [hu] at cB
        have HU := Hid.mk hu
        clear hu
        by_cases hneg : l < 0
        · go_wp2
          go_roundw
          case rel => exact ⟨h + 1, k + 1, h, by omega, by go_num, rfl, by go_num, by first | trivial | rfl, by have := HU.out; simp [Hid, kk, this, hk.out], by have := HU.out; simp [Hid, lw, this, hl.out, hneg]⟩
          case measure => simp [intOf]; omega
        · go_wp2
          go_roundw
          case rel => exact ⟨h + 1, k + 1, l, by omega, by go_num, rfl, by go_num, by first | trivial | rfl, by have := HU.out; simp [Hid, kk, this, hk.out], by have := HU.out; simp [Hid, lw, this, hl.out, hneg]⟩
          case measure => simp [intOf]; omega
    · obtain rfl : n = h := by omega
      have hr := rooms F f n
      rw [hk.out, hl.out] at hr
      have HR := Hid.mk hr
      clear hr
      by_cases hpos : 0 < l
      · by_cases k0 : k = 0
        · exfalso
          rcases HR.out with ⟨a, b, _⟩ | ⟨a, _, b, _⟩ | ⟨a, _, b, _⟩ <;> omega
        by_cases k1 : k = 1
        · subst k1
          go_wp2
          go_ret
          refine ⟨ret_i64 ?_, rfl⟩
          rcases HR.out with ⟨a, b, _⟩ | ⟨a, _, b, c1, c2, c3⟩ | ⟨a, _, b, _⟩
          · omega
          · unfold roomsOf
            rw [c2, c3]
            simp [hpos]
          · omega
        · rcases HR.out with ⟨a, b, _⟩ | ⟨a, _, b, c1, c2, c3⟩ | ⟨a, _, b, c1, c2, c3⟩
          · omega
          · omega
          · have hro : roomsOf F f n = if 0 < f then f + 1 + k - 1 else 1 + k := by
              unfold roomsOf
              rw [c2, if_pos rfl, c3, if_pos hpos]
            have HRO := Hid.mk hro
            clear hro c1 c2 c3
            by_cases f0 : 0 < f
            · go_wp2
              go_ret
              refine ⟨ret_i64 ?_, rfl⟩
              rw [HRO.out, if_pos f0]
              omega
            · obtain rfl : f = 0 := by omega
              go_wp2
              go_ret
              refine ⟨ret_i64 ?_, rfl⟩
              rw [HRO.out]
              simp
      · have HD := Hid.mk (decide_eq_false hpos)
        by_cases k0 : k = 0
        · subst k0
          go_wp2
          go_ret
          refine ⟨ret_i64 ?_, rfl⟩
          rcases HR.out with ⟨a, b, c1, c2, c3⟩ | ⟨a, _, b, c1, c2, c3⟩ | ⟨a, _, b, _⟩
          · unfold roomsOf
            rw [c2, c3]
            simp
          · omega
          · omega
        by_cases k1 : k = 1
        · subst k1
          go_wp2
          go_ret
          refine ⟨ret_i64 ?_, rfl⟩
          rcases HR.out with ⟨a, b, _⟩ | ⟨a, _, b, c1, c2, c3⟩ | ⟨a, _, b, _⟩
          · omega
          · unfold roomsOf
            rw [c2, c3, HD.out]
            simp
          · omega
        · rcases HR.out with ⟨a, b, _⟩ | ⟨a, _, b, c1, c2, c3⟩ | ⟨a, _, b, c1, c2, c3⟩
          · omega
          · omega
          · have hro : roomsOf F f n = if 0 < f then f + 0 + k - 1 else 0 + k := by
              unfold roomsOf
              rw [c2, if_pos rfl, c3, if_neg hpos]
            have HRO := Hid.mk hro
            clear hro c1 c2 c3
            by_cases f0 : 0 < f
            · go_wp2
              go_ret
              refine ⟨ret_i64 ?_, rfl⟩
              rw [HRO.out, if_pos f0]
              omega
            · obtain rfl : f = 0 := by omega
              go_wp2
              go_ret
              refine ⟨ret_i64 ?_, rfl⟩
              rw [HRO.out]
              simp
end Go.Proofs.Qxb6606351a
