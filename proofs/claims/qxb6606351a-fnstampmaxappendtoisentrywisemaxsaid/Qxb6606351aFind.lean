/-
  The walks of zzFind and zzFindStamp.
-/
import Derived.Test.Qxb6606351aPlain
import Derived.Deep.DeepCutAuto
import Derived.Deep.CutBlock
namespace Go.Proofs.Qxb6606351a
open Go.ChangeShapes Go.WideShapes Go.ChangeAt Go.RowKit
set_option linter.unusedVariables false
set_option linter.unusedSimpArgs false

/-- The place is sought between lo and hi. -/
def Sought (es : List E) (p : Int) (lo hi : Nat) : Prop := (∀ j, j < lo → j < es.length → (es.getD j (0, 0)).1 < p) ∧ ∀ j, hi ≤ j → j < es.length → p ≤ (es.getD j (0, 0)).1

theorem Sought.up {es : List E} {p : Int} {lo hi m : Nat} (h : Sought es p lo hi) (hs : Srt es) (hm : m < es.length) (hp : (es.getD m (0, 0)).1 < p) : Sought es p (m + 1) hi :=
  ⟨fun j hj hl => by
    by_cases e : j = m
    · subst e; exact hp
    · have := srt_get hs (show j < m by omega) hm; omega, h.2⟩
theorem Sought.down {es : List E} {p : Int} {lo hi m : Nat} (h : Sought es p lo hi) (hs : Srt es) (hm : m < es.length) (hp : p ≤ (es.getD m (0, 0)).1) : Sought es p lo m :=
  ⟨h.1, fun j hj hl => by
    by_cases e : j = m
    · subst e; exact hp
    · have := srt_get hs (show m < j by omega) hl; omega⟩

set_option maxRecDepth 100000 in
set_option maxHeartbeats 1000000 in
theorem find_any (a : Option Addr) (n cap : Nat) (es : List E) (p : Int) (w : World) (hz : es.length = n) (hn : n ≤ 10000000) (ha : Ents w a es) (hs : Srt es) :
    Calls Try.prog 28 #[.slice a n cap, .int .i64 p] w fun e w' => e = .returned (.tuple #[.int .u64 ((lk es p).getD 0), .bool (lk es p).isSome]) ∧ w' = w := by
  have HZ := Hid.mk hz
  have HA := Hid.mk ha
  have HS := Hid.mk hs
  clear hz ha hs
  go_enter Try.func28, Try.ntmps28
  go_wp2
  go_loopw [6, 7, 8] (fun x y z wr => ∃ lo hi : Nat, lo ≤ hi ∧ hi ≤ n ∧ x = .int .i64 lo ∧ y = .int .i64 hi ∧ wr = w ∧ Hid (Sought es p lo hi)) (fun x y z _ => (intOf y).toNat - (intOf x).toNat)
  case atStart => exact ⟨0, n, by omega, by omega, rfl, rfl, rfl, ⟨fun j hj => by omega, fun j hj hl => by have := HZ.out; omega⟩⟩
  case round =>
    obtain ⟨lo, hi, hlh, hhn, rfl, rfl, hwr, hso⟩ := hrel
    obtain rfl : w = wr := hwr.symm
    by_cases hlt : lo < hi
    · have hlt' : (lo : Int) < (hi : Int) := by omega
      obtain ⟨b, o, rfl, d⟩ := HA.out.at (by rw [HZ.out]; omega)
      obtain ⟨m, hm⟩ : ∃ m : Nat, m = lo + (hi - lo) / 2 := ⟨_, rfl⟩
      have hm1 : lo ≤ m := by omega
      have hm2 : m < hi := by omega
      have hme : (lo : Int) + ((hi : Int) - (lo : Int)) / 2 = (m : Int) := by omega
      have HME := Hid.mk hme
      obtain ⟨p1, p2⟩ := d m (by rw [HZ.out]; omega)
      obtain ⟨q, hq⟩ : ∃ q, (es.getD m (0, 0)).1 = q := ⟨_, rfl⟩
      rw [hq] at p1
      have HQ := Hid.mk hq
      clear d hq p2 hm hme
      have hmn : m < n := by omega
      go_upto_region 4 with fail
      rw [HME.out]
      by_cases hqp : q < p
      · go_wp2
        go_roundw
        case rel => exact ⟨m + 1, hi, by omega, by omega, by go_num, rfl, by first | trivial | rfl, hso.out.up HS.out (by rw [HZ.out]; omega) (by rw [HQ.out]; exact hqp)⟩
        case measure => simp [intOf]; omega
      · go_wp2
        go_roundw
        case rel => exact ⟨lo, m, by omega, by omega, rfl, rfl, by first | trivial | rfl, hso.out.down HS.out (by rw [HZ.out]; omega) (by rw [HQ.out]; omega)⟩
        case measure => simp [intOf]; omega
    · obtain rfl : lo = hi := by omega
      by_cases hln : lo < n
      · obtain ⟨b, o, rfl, d⟩ := HA.out.at (by rw [HZ.out]; omega)
        obtain ⟨p1, p2⟩ := d lo (by rw [HZ.out]; omega)
        obtain ⟨⟨q, c⟩, hqc⟩ : ∃ q, es.getD lo (0, 0) = q := ⟨_, rfl⟩
        rw [hqc] at p1 p2
        simp only at p1 p2
        have HQ := Hid.mk hqc
        clear d hqc
        by_cases hqp : q = p
        · subst hqp
          have hd : decide (q = q) = true := by simp
          have hfin := Hid.mk (lk_find HS.out (show lo < es.length by rw [HZ.out]; omega) (congrArg Prod.fst HQ.out))
          go_wp2
          go_ret2
          rw [hfin.out, HQ.out]
          exact ⟨rfl, rfl⟩
        · have hd : decide (q = p) = false := by simpa using hqp
          have hfin := Hid.mk (lk_miss (l := lo) HS.out hso.out.1 (fun hl => by have h9 := hso.out.2 lo (Nat.le_refl _) hl; rw [HQ.out] at h9 ⊢; simp only at h9 ⊢; omega))
          go_wp2
          go_ret2
          rw [hfin.out]
          exact ⟨rfl, rfl⟩
      · have hfin := Hid.mk (lk_miss (l := lo) HS.out hso.out.1 (fun hl => by have := HZ.out; omega))
        go_wp2
        go_ret2
        rw [hfin.out]
        exact ⟨rfl, rfl⟩

set_option maxRecDepth 100000 in
set_option maxHeartbeats 1000000 in
theorem finds_any (a : Option Addr) (n cap : Nat) (es : List E) (p : Int) (w : World) (hz : es.length = n) (hn : n ≤ 10000000) (ha : Ents w a es) (hs : Srt es) :
    Calls Try.prog 27 #[.slice a n cap, .int .i64 p] w fun e w' => e = .returned (.bool (lk es p).isSome) ∧ w' = w := by
  have HZ := Hid.mk hz
  have HA := Hid.mk ha
  have HS := Hid.mk hs
  clear hz ha hs
  go_enter Try.func27, Try.ntmps27
  go_wp2
  go_loopw [5, 6, 7] (fun x y z wr => ∃ lo hi : Nat, lo ≤ hi ∧ hi ≤ n ∧ x = .int .i64 lo ∧ y = .int .i64 hi ∧ wr = w ∧ Hid (Sought es p lo hi)) (fun x y z _ => (intOf y).toNat - (intOf x).toNat)
  case atStart => exact ⟨0, n, by omega, by omega, rfl, rfl, rfl, ⟨fun j hj => by omega, fun j hj hl => by have := HZ.out; omega⟩⟩
  case round =>
    obtain ⟨lo, hi, hlh, hhn, rfl, rfl, hwr, hso⟩ := hrel
    obtain rfl : w = wr := hwr.symm
    by_cases hlt : lo < hi
    · have hlt' : (lo : Int) < (hi : Int) := by omega
      obtain ⟨b, o, rfl, d⟩ := HA.out.at (by rw [HZ.out]; omega)
      obtain ⟨m, hm⟩ : ∃ m : Nat, m = lo + (hi - lo) / 2 := ⟨_, rfl⟩
      have hm1 : lo ≤ m := by omega
      have hm2 : m < hi := by omega
      have hme : (lo : Int) + ((hi : Int) - (lo : Int)) / 2 = (m : Int) := by omega
      have HME := Hid.mk hme
      obtain ⟨p1, p2⟩ := d m (by rw [HZ.out]; omega)
      obtain ⟨q, hq⟩ : ∃ q, (es.getD m (0, 0)).1 = q := ⟨_, rfl⟩
      rw [hq] at p1
      have HQ := Hid.mk hq
      clear d hq p2 hm hme
      have hmn : m < n := by omega
      go_upto_region 4 with fail
      rw [HME.out]
      by_cases hqp : q < p
      · go_wp2
        go_roundw
        case rel => exact ⟨m + 1, hi, by omega, by omega, by go_num, rfl, by first | trivial | rfl, hso.out.up HS.out (by rw [HZ.out]; omega) (by rw [HQ.out]; exact hqp)⟩
        case measure => simp [intOf]; omega
      · go_wp2
        go_roundw
        case rel => exact ⟨lo, m, by omega, by omega, rfl, rfl, by first | trivial | rfl, hso.out.down HS.out (by rw [HZ.out]; omega) (by rw [HQ.out]; omega)⟩
        case measure => simp [intOf]; omega
    · obtain rfl : lo = hi := by omega
      by_cases hln : lo < n
      · obtain ⟨b, o, rfl, d⟩ := HA.out.at (by rw [HZ.out]; omega)
        obtain ⟨p1, p2⟩ := d lo (by rw [HZ.out]; omega)
        obtain ⟨⟨q, c⟩, hqc⟩ : ∃ q, es.getD lo (0, 0) = q := ⟨_, rfl⟩
        rw [hqc] at p1 p2
        simp only at p1 p2
        have HQ := Hid.mk hqc
        clear d hqc
        by_cases hqp : q = p
        · subst hqp
          have hd : decide (q = q) = true := by simp
          have hfin := Hid.mk (lk_find HS.out (show lo < es.length by rw [HZ.out]; omega) (congrArg Prod.fst HQ.out))
          go_wp2
          go_ret
          rw [hfin.out, HQ.out]
          exact ⟨rfl, rfl⟩
        · have hd : decide (q = p) = false := by simpa using hqp
          have hfin := Hid.mk (lk_miss (l := lo) HS.out hso.out.1 (fun hl => by have h9 := hso.out.2 lo (Nat.le_refl _) hl; rw [HQ.out] at h9 ⊢; simp only at h9 ⊢; omega))
          go_wp2
          go_ret
          rw [hfin.out]
          exact ⟨ret_bool (show (q == p) = false by simpa using hqp), rfl⟩
      · have hfin := Hid.mk (lk_miss (l := lo) HS.out hso.out.1 (fun hl => by have := HZ.out; omega))
        go_wp2
        go_ret
        rw [hfin.out]
        exact ⟨rfl, rfl⟩

end Go.Proofs.Qxb6606351a
