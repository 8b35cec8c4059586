/-
  The walk of zzStampMaxBytes.
-/
import Derived.Test.Qxb6606351aZzb
namespace Go.Proofs.Qxb6606351a
open Go.ChangeShapes Go.WideShapes Go.ChangeAt Go.RowKit
set_option linter.unusedVariables false
set_option linter.unusedSimpArgs false

set_option maxRecDepth 100000 in
set_option maxHeartbeats 4000000 in
theorem byt_any (aL aB al aF ad1 ad2 : Option Addr) (n cL nb cB ll cl nf cF d1 c1 d2 c2 : Nat) (L Lf : Nat → List E) (A Af : Nat → Option Addr) (C Cf' : Nat → Nat) (w : World) (hL : RwsIn w aL n L A C) (hF : RwsIn w aF nf Lf Af Cf')
    (hn : n ≤ 65536) (hnb : nb ≤ 65536) (hll : ll ≤ 65536) (hnf : nf ≤ 65536) (hd1 : d1 ≤ 65536) (hd2 : d2 ≤ 65536) (hLl : ∀ i, i < n → (L i).length ≤ 1048576) (hFl : ∀ i, i < nf → (Lf i).length ≤ 1048576) :
    Calls Try.prog 7 #[.slice aL n cL, .slice aB nb cB, .slice al ll cl, .slice aF nf cF, .slice ad1 d1 c1, .slice ad2 d2 c2] w fun e w' => (∃ m, w' = w.drewN m) ∧ ∃ T : Int, e = .returned (.int .i64 T) ∧ 0 ≤ T ∧ T ≤ 100000000 ∧ (T ≤ 1048576 → sumTo n (fun i => (L i).length) ≤ 65536) := by
  have HL := Hid.mk hL
  have HF := Hid.mk hF
  have HLL := Hid.mk hLl
  have HFL := Hid.mk hFl
  clear hL hF hLl hFl
  by_cases hbig : 1048576 < 24 * n + nb + 16 * ll + 24 * nf + 16 * d1 + 16 * d2
  · go_enter Try.func7, Try.ntmps7
    go_wp2
    go_ret
    exact ⟨⟨0, rfl⟩, _, rfl, by omega, by omega, by omega⟩
  go_enter Try.func7, Try.ntmps7
  go_wp2
  go_loopw [13, 14] (fun z i wr => ∃ k y m : Nat, k ≤ n ∧ y ≤ 1048576 ∧ z = .int .i64 y ∧ i = .int .i64 k ∧ wr = w.drewN m ∧ Hid (16 * sumTo k (fun i => (L i).length) ≤ y)) (fun _ i _ => n - (intOf i).toNat)
  case atStart => exact ⟨0, 24 * n + nb + 16 * ll + 24 * nf + 16 * d1 + 16 * d2, 0, Nat.zero_le _, by omega, by go_num, rfl, rfl, by simp [Hid, sumTo]⟩
  case round =>
    obtain ⟨k, y, m, hk, hy, rfl, rfl, rfl, hall⟩ := hrel
    by_cases hlt : k < n
    · obtain ⟨b, o, rfl, hR⟩ := HL.out (by omega)
      obtain ⟨hc, _, _⟩ := hR k hlt
      have hlk := HLL.out k hlt
      clear hR
      obtain ⟨lk, hlke⟩ : ∃ lk, (L k).length = lk := ⟨_, rfl⟩
      rw [hlke] at hc hlk
      have HLK := Hid.mk hlke
      clear hlke
      have hlt' : (k : Int) < (n : Int) := by omega
      by_cases h1 : 65536 < lk
      · go_wp2
        go_ret
        exact ⟨⟨_, rfl⟩, _, rfl, by omega, by omega, by omega⟩
      · by_cases h2 : 1048576 < y + 16 * lk
        · go_wp2
          go_ret
          exact ⟨⟨_, rfl⟩, _, rfl, by omega, by omega, by omega⟩
        · go_wp2
          go_roundw
          case rel =>
            refine ⟨k + 1, y + 16 * lk, _, by omega, by omega, by go_num, by go_num, rfl, ?_⟩
            have e1 := hall.out
            have e2 := HLK.out
            show 16 * (sumTo k (fun i => (L i).length) + (L k).length) ≤ y + 16 * lk
            omega
          case measure => simp [intOf]; omega
    · obtain rfl : n = k := by omega
      go_wp2
      go_loopw [13, 15] (fun z i wr => ∃ k y' m : Nat, k ≤ nf ∧ y ≤ y' ∧ y' ≤ 1048576 ∧ z = .int .i64 y' ∧ i = .int .i64 k ∧ wr = w.drewN m) (fun _ i _ => nf - (intOf i).toNat)
      case atStart => exact ⟨0, y, _, Nat.zero_le _, Nat.le_refl _, hy, rfl, rfl, rfl⟩
      case round =>
        obtain ⟨k, y', m', hk', hyy, hy', rfl, rfl, rfl⟩ := hrel
        by_cases hlt : k < nf
        · obtain ⟨b, o, rfl, hR⟩ := HF.out (by omega)
          obtain ⟨hc, _, _⟩ := hR k hlt
          have hlk := HFL.out k hlt
          clear hR
          obtain ⟨lk, hlke⟩ : ∃ lk, (Lf k).length = lk := ⟨_, rfl⟩
          rw [hlke] at hc hlk
          clear hlke
          have hlt' : (k : Int) < (nf : Int) := by omega
          by_cases h1 : 65536 < lk
          · go_wp2
            go_ret
            exact ⟨⟨_, rfl⟩, _, rfl, by omega, by omega, by omega⟩
          · by_cases h2 : 1048576 < y' + 16 * lk
            · go_wp2
              go_ret
              exact ⟨⟨_, rfl⟩, _, rfl, by omega, by omega, by omega⟩
            · go_wp2
              go_roundw
              case rel => exact ⟨k + 1, y' + 16 * lk, _, by omega, by omega, by omega, by go_num, by go_num, rfl⟩
              case measure => simp [intOf]; omega
        · obtain rfl : nf = k := by omega
          go_wp2
          go_ret
          refine ⟨⟨_, rfl⟩, _, rfl, by omega, by omega, fun _ => ?_⟩
          have := hall.out
          omega
end Go.Proofs.Qxb6606351a
