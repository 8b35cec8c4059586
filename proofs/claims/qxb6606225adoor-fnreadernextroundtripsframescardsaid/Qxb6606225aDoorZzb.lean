/-
  Rows of rows of bytes. The walks of zzBytes and frb1CloneAll.
-/
import Derived.Test.Qxb6606225aDoorLaw1
namespace Go.Proofs.Qxb6606225aDoor
open Go.ChangeShapes Go.WideShapes Go.ChangeAt Go.RowKit
set_option linter.unusedVariables false
set_option linter.unusedSimpArgs false

/-- The rows of bytes L lie behind the slices in the cells from (b, off) on. -/
def Bods (w : World) (b off : Nat) (L : List (List Int)) : Prop :=
  ∀ i, i < L.length → ∃ ai ci, w.cell? ⟨b, off + i, none⟩ = some (.slice ai (L.getD i []).length ci) ∧ Lies w ai (L.getD i []) ∧ (ai = none → (L.getD i []).length = 0 ∧ ci = 0)

theorem Bods.below {w w' : World} {b off : Nat} {L : List (List Int)} (h : Bods w b off L) (hb : Below w.heap.size w w') : Bods w' b off L := by
  intro i hi
  obtain ⟨ai, ci, hc, hl, hn⟩ := h i hi
  exact ⟨ai, ci, (hb.cell (p := ⟨b, off + i, none⟩) (World.block_lt_of_cell? w _ hc)).trans hc, hl.below hb, hn⟩

/-- Each row is short. -/
def Short (L : List (List Int)) : Prop := ∀ i, (L.getD i []).length ≤ 1048576

set_option maxHeartbeats 400000 in
theorem zzb_zero (a : Option Addr) (cap : Nat) (ms : Int) (w : World) :
    Calls Tryd.prog 12 #[.slice a 0 cap, .int .i64 ms] w fun e w' => e = .returned (.bool true) ∧ w' = w := by
  go_enter Tryd.func12, Tryd.ntmps12
  go_wp2
  refine wp_loop_rounds 1 ?_; rw [rounds_succ]
  go_wp2
  go_ret
  exact ⟨rfl, rfl⟩

theorem zzb_big (a : Option Addr) (len cap : Nat) (ms : Int) (w : World) (h : 1048576 < len) (hm : len ≤ 9223372036854775807) :
    Calls Tryd.prog 12 #[.slice a len cap, .int .i64 ms] w fun e w' => e = .returned (.bool false) ∧ w' = w := by
  go_enter Tryd.func12, Tryd.ntmps12
  go_wp2
  go_ret
  exact ⟨rfl, rfl⟩

set_option maxHeartbeats 1000000 in
theorem zzb_some (b off n cap : Nat) (ms : Int) (L : List (List Int)) (w : World) (hz : L.length = n) (hn : n ≤ 1048576) (hb : Bods w b off L) (hlen : ∀ i, (L.getD i []).length ≤ 9223372036854775807) :
    Calls Tryd.prog 12 #[.slice (some ⟨b, off, none⟩) n cap, .int .i64 ms] w fun e w' => (∃ m, w' = w.drewN m) ∧ ∃ r, e = .returned (.bool r) ∧ (r = true → Short L) := by
  have HZ := Hid.mk hz
  have HB := Hid.mk hb
  have HL := Hid.mk hlen
  clear hz hb hlen
  go_enter Tryd.func12, Tryd.ntmps12
  go_wp2
  go_loopw [5, 6] (fun z i wr => ∃ k y m : Nat, k ≤ n ∧ y ≤ 1048576 ∧ z = .int .i64 y ∧ i = .int .i64 k ∧ wr = w.drewN m ∧ Hid (∀ j, j < k → (L.getD j []).length ≤ 1048576)) (fun _ i _ => n - (intOf i).toNat)
  case atStart => exact ⟨0, n, 0, Nat.zero_le _, hn, rfl, rfl, rfl, fun j hj => by omega⟩
  case round =>
    obtain ⟨k, y, m, hk, hy, rfl, rfl, rfl, hall⟩ := hrel
    by_cases hlt : k < n
    · obtain ⟨ai, ci, hc, _, _⟩ := HB.out k (by rw [HZ.out]; exact hlt)
      have hlk := HL.out k
      obtain ⟨lk, hlke⟩ : ∃ lk, (L.getD k []).length = lk := ⟨_, rfl⟩
      rw [hlke] at hc hlk
      have HLK := Hid.mk hlke
      clear hlke
      have hlt' : (k : Int) < (n : Int) := by omega
      by_cases h1 : 1048576 < lk
      · go_wp2
        go_ret
        exact ⟨⟨_, rfl⟩, false, rfl, fun h => by cases h⟩
      · by_cases h2 : 1048576 < y + lk
        · go_wp2
          go_ret
          exact ⟨⟨_, rfl⟩, false, rfl, fun h => by cases h⟩
        · go_wp2
          go_roundw
          case rel =>
            refine ⟨k + 1, y + lk, _, by omega, by omega, by go_num, by go_num, rfl, fun j hj => ?_⟩
            by_cases hjk : j = k
            · subst hjk; rw [HLK.out]; omega
            · exact hall.out j (by omega)
          case measure => simp [intOf]; omega
    · go_wp2
      go_ret
      refine ⟨⟨_, rfl⟩, true, rfl, fun _ j => ?_⟩
      by_cases hj : j < k
      · exact hall.out j hj
      · have hz := HZ.out
        rw [List.getD, List.getElem?_eq_none (by omega)]
        simp
end Go.Proofs.Qxb6606225aDoor
