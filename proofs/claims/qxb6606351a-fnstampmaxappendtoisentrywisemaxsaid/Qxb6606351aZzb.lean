/-
  The walk of zzBytes (the second law's).
-/
import Derived.Test.Qxb6606351aDom
namespace Go.Proofs.Qxb6606351a
open Go.ChangeShapes Go.WideShapes Go.ChangeAt Go.RowKit
set_option linter.unusedVariables false
set_option linter.unusedSimpArgs false

set_option maxRecDepth 100000 in
set_option maxHeartbeats 4000000 in
theorem zzb2_any (aL aB al aF ad1 ad2 : Option Addr) (n cL nb cB ll cl nf cF d1 c1 d2 c2 : Nat) (x : Value) (L Lf : Nat → List E) (A Af : Nat → Option Addr) (C Cf' : Nat → Nat) (w : World) (hL : RwsIn w aL n L A C) (hF : RwsIn w aF nf Lf Af Cf')
    (hn : n ≤ 9223372036854775807) (hnb : nb ≤ 9223372036854775807) (hll : ll ≤ 9223372036854775807) (hnf : nf ≤ 9223372036854775807) (hd1 : d1 ≤ 9223372036854775807) (hd2 : d2 ≤ 9223372036854775807) (hLl : ∀ i, i < n → (L i).length ≤ 9223372036854775807) (hFl : ∀ i, i < nf → (Lf i).length ≤ 9223372036854775807) :
    Calls Try.prog 22 #[.slice aL n cL, .slice aB nb cB, .slice al ll cl, x, .slice aF nf cF, .slice ad1 d1 c1, .slice ad2 d2 c2] w fun e w' => (∃ m, w' = w.drewN m) ∧ ∃ r, e = .returned (.bool r) ∧ (r = true → (∀ i, i < n → (L i).length ≤ 1048576) ∧ ∀ i, i < nf → (Lf i).length ≤ 1048576) := by
  have HL := Hid.mk hL
  have HF := Hid.mk hF
  have HLL := Hid.mk hLl
  have HFL := Hid.mk hFl
  clear hL hF hLl hFl
  by_cases hbig : 1048576 < n
  · go_enter Try.func22, Try.ntmps22
    go_wp2
    go_ret
    exact ⟨⟨0, rfl⟩, false, rfl, fun h => by cases h⟩
  go_enter Try.func22, Try.ntmps22
  go_wp2
  go_loopw [15, 16] (fun z i wr => ∃ k y m : Nat, k ≤ n ∧ y ≤ 1048576 ∧ z = .int .i64 y ∧ i = .int .i64 k ∧ wr = w.drewN m ∧ Hid (∀ j, j < k → (L j).length ≤ 1048576)) (fun _ i _ => n - (intOf i).toNat)
  case atStart => exact ⟨0, n, 0, Nat.zero_le _, by omega, rfl, rfl, rfl, fun j hj => by omega⟩
  case round =>
    obtain ⟨k, y, m, hk, hy, rfl, rfl, rfl, hall⟩ := hrel
    by_cases hlt : k < n
    · obtain ⟨b, o, rfl, hR⟩ := HL.out (by omega)
      obtain ⟨hc, _, _⟩ := hR k hlt
      have hlk := HLL.out k hlt
      clear hR
      obtain ⟨lk, hlke⟩ : ∃ lk, (L k).length = lk := ⟨_, rfl⟩
      rw [hlke] at hc hlk
      have HLK := Hid.mk hlke
      clear hlke
      have hlt' : (k : Int) < (n : Int) := by omega
      by_cases h1 : 1048576 < lk
      · go_wp2
        go_ret
        exact ⟨⟨_, rfl⟩, false, rfl, fun h => by cases h⟩
      · by_cases h2 : 1048576 < y + lk
        · go_wp2
          go_ret
          exact ⟨⟨_, rfl⟩, false, rfl, fun h => by cases h⟩
        · go_wp2
          go_roundw
          case rel =>
            refine ⟨k + 1, y + lk, _, by omega, by omega, by go_num, by go_num, rfl, fun j hj => ?_⟩
            by_cases hjk : j = k
            · subst hjk; rw [HLK.out]; omega
            · exact hall.out j (by omega)
          case measure => simp [intOf]; omega
    · obtain rfl : n = k := by omega
      by_cases b1 : 1048576 < nb
      · go_wp2
        go_ret
        exact ⟨⟨_, rfl⟩, false, rfl, fun h => by cases h⟩
      by_cases b2 : 1048576 < y + nb
      · go_wp2
        go_ret
        exact ⟨⟨_, rfl⟩, false, rfl, fun h => by cases h⟩
      by_cases b3 : 1048576 < ll
      · go_wp2
        go_ret
        exact ⟨⟨_, rfl⟩, false, rfl, fun h => by cases h⟩
      by_cases b4 : 1048576 < y + nb + ll
      · go_wp2
        go_ret
        exact ⟨⟨_, rfl⟩, false, rfl, fun h => by cases h⟩
      by_cases b5 : 1048576 < nf
      · go_wp2
        go_ret
        exact ⟨⟨_, rfl⟩, false, rfl, fun h => by cases h⟩
      by_cases b6 : 1048576 < y + nb + ll + nf
      · go_wp2
        go_ret
        exact ⟨⟨_, rfl⟩, false, rfl, fun h => by cases h⟩
      go_wp2
      go_loopw [15, 17] (fun z i wr => ∃ k y m : Nat, k ≤ nf ∧ y ≤ 1048576 ∧ z = .int .i64 y ∧ i = .int .i64 k ∧ wr = w.drewN m ∧ Hid (∀ j, j < k → (Lf j).length ≤ 1048576)) (fun _ i _ => nf - (intOf i).toNat)
      case atStart => exact ⟨0, y + nb + ll + nf, _, Nat.zero_le _, by omega, by go_num, rfl, rfl, fun j hj => by omega⟩
      case round =>
        obtain ⟨k, y', m', hk', hy', rfl, rfl, rfl, hall'⟩ := hrel
        by_cases hlt : k < nf
        · obtain ⟨b, o, rfl, hR⟩ := HF.out (by omega)
          obtain ⟨hc, _, _⟩ := hR k hlt
          have hlk := HFL.out k hlt
          clear hR
          obtain ⟨lk, hlke⟩ : ∃ lk, (Lf k).length = lk := ⟨_, rfl⟩
          rw [hlke] at hc hlk
          have HLK := Hid.mk hlke
          clear hlke
          have hlt' : (k : Int) < (nf : Int) := by omega
          by_cases h1 : 1048576 < lk
          · go_wp2
            go_ret
            exact ⟨⟨_, rfl⟩, false, rfl, fun h => by cases h⟩
          · by_cases h2 : 1048576 < y' + lk
            · go_wp2
              go_ret
              exact ⟨⟨_, rfl⟩, false, rfl, fun h => by cases h⟩
            · go_wp2
              go_roundw
              case rel =>
                refine ⟨k + 1, y' + lk, _, by omega, by omega, by go_num, by go_num, rfl, fun j hj => ?_⟩
                by_cases hjk : j = k
                · subst hjk; rw [HLK.out]; omega
                · exact hall'.out j (by omega)
              case measure => simp [intOf]; omega
        · obtain rfl : nf = k := by omega
          by_cases e1 : 1048576 < d1
          · go_wp2
            go_ret
            exact ⟨⟨_, rfl⟩, false, rfl, fun h => by cases h⟩
          by_cases e2 : 1048576 < y' + d1
          · go_wp2
            go_ret
            exact ⟨⟨_, rfl⟩, false, rfl, fun h => by cases h⟩
          by_cases e3 : 1048576 < d2
          · go_wp2
            go_ret
            exact ⟨⟨_, rfl⟩, false, rfl, fun h => by cases h⟩
          by_cases e4 : 1048576 < y' + d1 + d2
          · go_wp2
            go_ret
            exact ⟨⟨_, rfl⟩, false, rfl, fun h => by cases h⟩
          go_wp2
          go_ret
          exact ⟨⟨_, rfl⟩, true, rfl, fun _ => ⟨hall.out, hall'.out⟩⟩
end Go.Proofs.Qxb6606351a
