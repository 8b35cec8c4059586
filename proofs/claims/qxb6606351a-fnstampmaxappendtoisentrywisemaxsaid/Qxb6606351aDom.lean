/-
  The walk of zzStampMaxDomain.
-/
import Derived.Test.Qxb6606351aInc
namespace Go.Proofs.Qxb6606351a
open Go.ChangeShapes Go.WideShapes Go.ChangeAt Go.RowKit
set_option linter.unusedVariables false
set_option linter.unusedSimpArgs false

/-- A slice of rows of entries, as it came in. -/
def RwsIn (w : World) (a : Option Addr) (n : Nat) (L : Nat → List E) (A : Nat → Option Addr) (C : Nat → Nat) : Prop := 0 < n → ∃ b o, a = some ⟨b, o, none⟩ ∧ Rws w b o n L A C
/-- A slice of bools, as it came in. -/
def BoolsIn (w : World) (a : Option Addr) (n : Nat) (F : Nat → Bool) : Prop := 0 < n → ∃ b o, a = some ⟨b, o, none⟩ ∧ ∀ i, i < n → w.cell? ⟨b, o + i, none⟩ = some (.bool (F i))

set_option maxHeartbeats 2000000 in
theorem dom_any (aL aB al aF : Option Addr) (n cL nb cB ll cl nf cF : Nat) (L Lf : Nat → List E) (A Af : Nat → Option Addr) (C Cf' : Nat → Nat) (F : Nat → Bool) (el : List E) (w : World) (hL : RwsIn w aL n L A C) (hB : BoolsIn w aB nb F) (hl : Ents w al el) (hF : RwsIn w aF nf Lf Af Cf')
    (hel : el.length = ll) (hn : n ≤ 1048576) (hnb : nb ≤ 1048576) (hll : ll ≤ 1048576) (hnf : nf ≤ 1048576) (hLl : ∀ i, i < n → (L i).length ≤ 1048576) (hFl : ∀ i, i < nf → (Lf i).length ≤ 1048576) :
    Calls Try.prog 8 #[.slice aL n cL, .slice aB nb cB, .slice al ll cl, .slice aF nf cF] w fun e w' => (∃ m, w' = w.drewN m) ∧ ∃ r, e = .returned (.bool r) ∧ (r = true → nb = n ∧ (∀ h, h < n → F h = true → Inc (L h)) ∧ Inc el ∧ ∀ i, i < nf → (Lf i).length = 0) := by
  have HL := Hid.mk hL
  have HB := Hid.mk hB
  have HE := Hid.mk hl
  have HF := Hid.mk hF
  have HEL := Hid.mk hel
  have HLL := Hid.mk hLl
  have HFL := Hid.mk hFl
  clear hL hB hl hF hel hLl hFl
  by_cases hnn : nb = n
  · subst hnn
    go_enter Try.func8, Try.ntmps8
    go_wp2
    go_loopw [9] (fun i wr => ∃ k m : Nat, k ≤ nb ∧ i = .int .i64 k ∧ wr = w.drewN m ∧ Hid (∀ j, j < k → F j = true → Inc (L j))) (fun i _ => nb - (intOf i).toNat)
    case atStart => exact ⟨0, 0, Nat.zero_le _, rfl, rfl, fun j hj => by omega⟩
    case round =>
      obtain ⟨k, m, hk, rfl, rfl, hall⟩ := hrel
      by_cases hlt : k < nb
      · have hlt' : (k : Int) < (nb : Int) := by omega
        obtain ⟨bL, oL, rfl, hR⟩ := HL.out (by omega)
        obtain ⟨bB, oB, rfl, hBc⟩ := HB.out (by omega)
        obtain ⟨cL1, eL1, _⟩ := hR k hlt
        have cB1 := hBc k hlt
        have hlk := HLL.out k hlt
        have HEK := Hid.mk eL1
        clear hR hBc eL1
        obtain ⟨ai, hai⟩ : ∃ ai, A k = ai := ⟨_, rfl⟩
        obtain ⟨ci, hci⟩ : ∃ ci, C k = ci := ⟨_, rfl⟩
        obtain ⟨lk, hlke⟩ : ∃ lk, (L k).length = lk := ⟨_, rfl⟩
        rw [hai, hci, hlke] at cL1
        have HAI := Hid.mk hai
        have HLK := Hid.mk hlke
        rw [hlke] at hlk
        clear hai hci hlke
        cases hfk : F k with
        | false =>
          rw [hfk] at cB1
          have HFK := Hid.mk hfk
          clear hfk
          go_wp2
          go_roundw
          case rel =>
            refine ⟨k + 1, _, by omega, by go_num, rfl, fun j hj hj2 => ?_⟩
            by_cases e : j = k
            · subst e; rw [HFK.out] at hj2; cases hj2
            · exact hall.out j (by omega) hj2
          case measure => simp [intOf]; omega
        | true =>
          rw [hfk] at cB1
          clear hfk
          go_wp2_with fail
          refine (incr_any ai lk ci (L k) _ HLK.out hlk (by have := HEK.out; rw [HAI.out] at this; exact this)).mono ?_
          rintro e w2 ⟨⟨m2, rfl⟩, r, rfl, hr⟩
          have HR := Hid.mk hr
          clear hr
          cases r with
          | false =>
            go_wp2
            go_ret
            exact ⟨⟨_, rfl⟩, false, rfl, fun h => by cases h⟩
          | true =>
            go_wp2
            go_roundw
            case rel =>
              refine ⟨k + 1, _, by omega, by go_num, rfl, fun j hj hj2 => ?_⟩
              by_cases e : j = k
              · subst e; exact HR.out (by first | trivial | rfl)
              · exact hall.out j (by omega) hj2
            case measure => simp [intOf]; omega
      · obtain rfl : nb = k := by omega
        go_wp2_with fail
        refine (incr_any al ll cl el (w.drewN m) HEL.out hll (show Ents (w.drewN m) al el from HE.out)).mono ?_
        rintro e w2 ⟨⟨m2, rfl⟩, r, rfl, hr⟩
        have HR := Hid.mk hr
        clear hr
        cases r with
        | false =>
          go_wp2
          go_ret
          exact ⟨⟨_, rfl⟩, false, rfl, fun h => by cases h⟩
        | true =>
          go_wp2
          go_loopw [10] (fun i wr => ∃ k m : Nat, k ≤ nf ∧ i = .int .i64 k ∧ wr = w.drewN m ∧ Hid (∀ j, j < k → (Lf j).length = 0)) (fun i _ => nf - (intOf i).toNat)
          case atStart => exact ⟨0, _, Nat.zero_le _, rfl, rfl, fun j hj => by omega⟩
          case round =>
            obtain ⟨k, m', hk', rfl, rfl, hall'⟩ := hrel
            by_cases hlt : k < nf
            · have hlt' : (k : Int) < (nf : Int) := by omega
              obtain ⟨bF, oF, rfl, hR⟩ := HF.out (by omega)
              obtain ⟨cF1, _, _⟩ := hR k hlt
              have hlk := HFL.out k hlt
              clear hR
              obtain ⟨lk, hlke⟩ : ∃ lk, (Lf k).length = lk := ⟨_, rfl⟩
              rw [hlke] at cF1 hlk
              have HLK := Hid.mk hlke
              clear hlke
              by_cases h0 : lk = 0
              · subst h0
                go_wp2
                go_roundw
                case rel =>
                  refine ⟨k + 1, _, by omega, by go_num, rfl, fun j hj => ?_⟩
                  by_cases e : j = k
                  · subst e; exact HLK.out
                  · exact hall'.out j (by omega)
                case measure => simp [intOf]; omega
              · have h0' : ¬ (lk : Int) = 0 := by omega
                go_wp2
                go_ret
                exact ⟨⟨_, rfl⟩, false, rfl, fun h => by cases h⟩
            · obtain rfl : nf = k := by omega
              go_wp2
              go_ret
              exact ⟨⟨_, rfl⟩, true, rfl, fun _ => ⟨by first | trivial | rfl, hall.out, HR.out (by first | trivial | rfl), hall'.out⟩⟩
  · have hnn' : ¬ (nb : Int) = (n : Int) := by omega
    go_enter Try.func8, Try.ntmps8
    go_wp2
    go_ret
    exact ⟨⟨0, rfl⟩, false, rfl, fun h => by cases h⟩
end Go.Proofs.Qxb6606351a
