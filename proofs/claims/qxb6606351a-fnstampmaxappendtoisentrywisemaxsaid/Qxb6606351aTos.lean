/-
  The walks of the clones: zzToStamp.
-/
import Derived.Test.Qxb6606351aRoom
namespace Go.Proofs.Qxb6606351a
open Go.ChangeShapes Go.WideShapes Go.ChangeAt Go.RowKit
set_option linter.unusedVariables false
set_option linter.unusedSimpArgs false

theorem tos_none (w : World) :
    Calls Try.prog 12 #[.slice none 0 0] w fun e w' => e = .returned (.slice none 0 0) ∧ w' = w := by
  have hne := fun w' : World => Lib.run_eql_slice_nil (P := Try.prog) w' 24 40 none 0 0 0 0 Try.underlying24
  go_enter Try.func12, Try.ntmps12
  go_wp2
  go_ret
  exact ⟨rfl, rfl⟩

theorem set_take (xs : List Value) (es : List E) (k : Nat) (p c : Int) (n : Nat) (hl : xs.length = n * 2) (hk : k < n) (hen : es.length = n) (hx : xs.take (k * 2) = flat (es.take k)) (he : es.drop k = (p, c) :: es.drop (k + 1)) :
    ((xs.set (k * 2) (.int .i64 p)).set (k * 2 + 1) (.int .u64 c)).take ((k + 1) * 2) = flat (es.take (k + 1)) := by
  have e1 : es.take (k + 1) = es.take k ++ [(p, c)] := by
    have h1 : es[k]? = some (p, c) := by
      have := congrArg (fun l => l[0]?) he
      simpa using this
    rw [List.take_add_one, h1]; rfl
  rw [e1, flat_append, ← hx]
  apply List.ext_getElem?
  intro j
  by_cases h1 : j < k * 2
  · rw [List.getElem?_take_of_lt (by omega), List.getElem?_append_left (by rw [List.length_take]; omega), List.getElem?_take_of_lt h1, List.getElem?_set_ne (by omega), List.getElem?_set_ne (by omega)]
  · by_cases h2 : j = k * 2
    · subst h2
      rw [List.getElem?_take_of_lt (by omega), List.getElem?_append_right (by rw [List.length_take]; omega), List.getElem?_set_ne (by omega), List.getElem?_set_self (by omega), List.length_take, Nat.min_eq_left (by omega), Nat.sub_self]
      rfl
    · by_cases h3 : j = k * 2 + 1
      · subst h3
        rw [List.getElem?_take_of_lt (by omega), List.getElem?_append_right (by rw [List.length_take]; omega), List.getElem?_set_self (by rw [List.length_set]; omega), List.length_take, Nat.min_eq_left (by omega), show k * 2 + 1 - k * 2 = 1 from by omega]
        rfl
      · rw [List.getElem?_eq_none (by rw [List.length_take]; omega), List.getElem?_eq_none (by rw [List.length_append, List.length_take]; simp [flat]; omega)]

/-- The first k entries are laid. -/
def TosMid (wr : World) (g n : Nat) (es : List E) (k : Nat) : Prop := ∃ xs, wr.ownsRow 0 39 2 (.slice (some ⟨g, 0, none⟩) n n) n xs ∧ xs.take (k * 2) = flat (es.take k)

set_option maxRecDepth 100000 in
set_option maxHeartbeats 2000000 in
theorem tos_some (ad : Addr) (n cap : Nat) (es : List E) (w : World) (hz : es.length = n) (hn : n ≤ 1048576) (ha : Ents w (some ad) es) :
    Calls Try.prog 12 #[.slice (some ad) n cap] w fun e w' => e = .returned (.slice (some ⟨w.heap.size, 0, none⟩) n n) ∧ w'.ownsRow 0 39 2 (.slice (some ⟨w.heap.size, 0, none⟩) n n) es.length (flat es) ∧ Below w.heap.size w w' := by
  obtain ⟨i9, hi, hz0, hz1, hz2⟩ : ∃ i, Try.prog.info? 39 = some i ∧ i.zero = some (.agg #[.int .i64 0, .int .u64 0]) ∧ i.size = 2 ∧ i.bytes = 16 := by
    obtain ⟨i, hi, hzz⟩ := Option.map_eq_some_iff.1 Try.info39
    simp only [Prod.mk.injEq] at hzz
    exact ⟨i, hi, hzz.1, hzz.2.1, hzz.2.2⟩
  obtain ⟨w1, hmk, ho1, hg1⟩ := run_make_full (P := Try.prog) w 0 34 39 i9 (.agg #[.int .i64 0, .int .u64 0]) 2 Try.underlying34 hi hz0 hz1 .i64 .i64 n (by rw [hz2]; omega) (by unfold maxLen; omega) (Nat.zero_le _)
  have hne := fun w' : World => Lib.run_eql_slice_nil (P := Try.prog) w' 24 40 (some ad) n cap 0 0 Try.underlying24
  have HZ := Hid.mk hz
  have HA := Hid.mk ha
  have HO1 := Hid.mk ho1
  have HB1 : Hid (Below w.heap.size w w1) := ⟨hg1.os, hg1.tape, hg1.output, hg1.size, fun k hk => hg1.block k hk (fun e => by cases e)⟩
  clear hi hz0 hz1 hz2 hz ha ho1 hg1
  generalize hg : w.heap.size = g at *
  have HG := Hid.mk hg
  clear hg
  go_enter Try.func12, Try.ntmps12
  go_wp2
  go_loopw [4] (fun i wr => ∃ k : Nat, k ≤ n ∧ i = .int .i64 k ∧ Hid (TosMid wr g n es k) ∧ Hid (Below g w wr)) (fun i _ => n - (intOf i).toNat)
  case atStart => exact ⟨0, Nat.zero_le _, rfl, ⟨_, HO1.out, by simp [flat]⟩, HB1⟩
  case round =>
    obtain ⟨k, hk, rfl, hmid, hbe⟩ := hrel
    by_cases hlt : k < n
    · have hlt' : (k : Int) < (n : Int) := by omega
      obtain ⟨xs, ho, hx⟩ := hmid.out
      obtain ⟨b, o, hae, hc⟩ := HA.out.at (by rw [HZ.out]; omega)
      obtain ⟨a1, a2⟩ := hc k (by rw [HZ.out]; omega)
      have hdr := drop_cons_getD es k (by rw [HZ.out]; omega)
      have hbg : b < g := by rw [← HG.out]; exact World.block_lt_of_cell? w _ a1
      have hbne : b ≠ g := by omega
      have a1' := (hbe.out.cell (p := ⟨b, o + k * 2, none⟩) hbg).trans a1
      have a2' := (hbe.out.cell (p := ⟨b, o + k * 2 + 1, none⟩) hbg).trans a2
      obtain ⟨⟨p, c⟩, hpc⟩ : ∃ x, es.getD k (0, 0) = x := ⟨_, rfl⟩
      rw [hpc] at a1' a2' hdr
      simp only at a1' a2'
      have t1 := ho.cellAt (k * 2) (by omega)
      have t2 := ho.cellAt (k * 2 + 1) (by omega)
      have hxl := ho.1
      rw [List.getElem?_eq_getElem (by omega)] at t1 t2
      have y1 := ho.frozenAt (k * 2)
      have y2 := ho.frozenAt (k * 2 + 1)
      obtain ⟨st1, gr1⟩ := ho.stored (k * 2) (.int .i64 p)
      obtain ⟨st2, gr2⟩ := st1.stored (k * 2 + 1) (.int .u64 c)
      have t3 : (wr.setCell ⟨g, k * 2, none⟩ (.int .i64 p)).cell? ⟨g, k * 2 + 1, none⟩ = some _ := (cell_setCell_far wr g (k * 2) (k * 2 + 1) _ (by omega)).trans t2
      have y3 : (wr.setCell ⟨g, k * 2, none⟩ (.int .i64 p)).frozen? ⟨g, k * 2 + 1, none⟩ = false := (frozen_setCell _ _ _ _).trans y2
      have f1 : ((wr.setCell ⟨g, k * 2, none⟩ (.int .i64 p)).setCell ⟨g, k * 2 + 1, none⟩ (.int .u64 c)).cell? ⟨b, o + k * 2, none⟩ = some (.int .i64 p) := (World.cell?_of_block ((Below.heap_setCell _ _ _ _ hbne).trans (Below.heap_setCell _ _ _ _ hbne))).trans a1'
      have f2 : ((wr.setCell ⟨g, k * 2, none⟩ (.int .i64 p)).setCell ⟨g, k * 2 + 1, none⟩ (.int .u64 c)).cell? ⟨b, o + k * 2 + 1, none⟩ = some (.int .u64 c) := (World.cell?_of_block ((Below.heap_setCell _ _ _ _ hbne).trans (Below.heap_setCell _ _ _ _ hbne))).trans a2'
      have HST := Hid.mk st2
      have HXS := Hid.mk (set_take xs es k p c n hxl hlt HZ.out hx hdr)
      have g1 : wr.drew.cell? ⟨b, o + k * 2, none⟩ = some (.int .i64 p) := a1'
      have g2 : wr.drew.cell? ⟨b, o + k * 2 + 1, none⟩ = some (.int .u64 c) := a2'
      clear st1 st2 gr1 gr2 ho hx hc a1 a2 hdr hpc hmid
      obtain rfl := Option.some.inj hae
      go_wp2
      go_region_held3 (fun w' => w'.cell? ⟨b, o + k * 2, none⟩ = some (.int .i64 p) ∧ w'.cell? ⟨b, o + k * 2 + 1, none⟩ = some (.int .u64 c)) (first | (exact ⟨g1, g2⟩) | (exact ⟨f1, f2⟩) | go_keep) (fail)
      go_wp2
      go_roundw
      case rel => exact ⟨k + 1, by omega, by go_num, ⟨_, HST.out, HXS.out⟩, ((hbe.out.setCell (p := ⟨g, k * 2, none⟩) (Nat.le_refl _) _).setCell (p := ⟨g, k * 2 + 1, none⟩) (Nat.le_refl _) _).drew⟩
      case measure => simp [intOf]; omega
    · obtain rfl : n = k := by omega
      go_wp2
      go_ret
      obtain ⟨xs, h1, h2⟩ := hmid.out
      refine ⟨rfl, ?_, hbe.out⟩
      rw [List.take_of_length_le (by rw [h1.1]; exact Nat.le_refl _), List.take_of_length_le (by rw [HZ.out]; exact Nat.le_refl _)] at h2
      rw [HZ.out, ← h2]
      exact h1
end Go.Proofs.Qxb6606351a
