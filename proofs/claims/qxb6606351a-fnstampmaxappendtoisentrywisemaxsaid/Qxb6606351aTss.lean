/-
  The walk of zzToStamps.
-/
import Derived.Test.Qxb6606351aClb
import Derived.Test.Qxb6606351aMem
namespace Go.Proofs.Qxb6606351a
open Go.ChangeShapes Go.WideShapes Go.ChangeAt Go.RowKit
set_option linter.unusedVariables false
set_option linter.unusedSimpArgs false

theorem Try.info34' : (Try.prog.info? 34).map (fun i => (i.zero, i.size, i.bytes)) = some (some (.slice none 0 0), 1, 24) := by kernel_rfl

/-- Rows of entries behind the slices in the cells from (b, off) on. -/
def Rws (w : World) (b off n : Nat) (L : Nat → List E) (A : Nat → Option Addr) (C : Nat → Nat) : Prop :=
  ∀ i, i < n → w.cell? ⟨b, off + i, none⟩ = some (.slice (A i) (L i).length (C i)) ∧ Ents w (A i) (L i) ∧ (A i = none → (L i).length = 0 ∧ C i = 0)

theorem tss_none (w : World) :
    Calls Try.prog 10 #[.slice none 0 0] w fun e w' => e = .returned (.slice none 0 0) ∧ w' = w := by
  have hne := fun w' : World => Lib.run_eql_slice_nil (P := Try.prog) w' 22 24 none 0 0 0 0 Try.underlying22
  go_enter Try.func10, Try.ntmps10
  go_wp2
  go_ret
  exact ⟨rfl, rfl⟩

/-- The first k rows are cloned. -/
structure Tsd (w : World) (g n : Nat) (L : Nat → List E) (A : Nat → Option Addr) (f : Nat → Value) (k : Nat) : Prop where
  row : w.rowIs g 34 n f
  own : ∀ j, j < k → w.ownsRow 0 39 2 (f j) (L j).length (flat (L j))
  isNil : ∀ j, j < k → (f j = nilS ↔ A j = none)
  rest : ∀ j, k ≤ j → f j = nilS
  ap : ∀ x, sumTo n (fun j => cb x (f j)) ≤ if x ≤ g then 0 else 1
  lt : ∀ x, w.heap.size ≤ x → sumTo n (fun j => cb x (f j)) = 0

theorem Tsd.next {w w' : World} {g n k : Nat} {L : Nat → List E} {A : Nat → Option Addr} {f : Nat → Value} {v : Value} (h : Tsd w g n L A f k) (hk : k < n) (hgl : g < w.heap.size) (hb : Below w.heap.size w w') (ho : w'.ownsRow 0 39 2 v (L k).length (flat (L k))) (hv : v = nilS ↔ A k = none) (hfr : ∀ x, v.ownBlock = some x → w.heap.size ≤ x) :
    Tsd (w'.setCell ⟨g, k, none⟩ v) g n L A (fun j => if j = k then v else f j) (k + 1) := by
  have hkp : Kp (fun b => b = g) w' (w'.setCell ⟨g, k, none⟩ v) := Kp.setCell (X := fun b => b = g) (Kp.refl _ w') (p := ⟨g, k, none⟩) rfl v
  have hb' : Kp (fun _ => False) w w' := ⟨hb.os, hb.tape, hb.output, hb.size, fun i hi _ => hb.block i hi⟩
  have turn : ∀ x, sumTo n (fun j => cb x (if j = k then v else f j)) + cb x (f k) = sumTo n (fun j => cb x (f j)) + cb x v := fun x => by
    have := sumTo_turn n (fun j => cb x (f j)) (fun j => cb x (if j = k then v else f j)) k hk (fun i _ hne => by simp only [if_neg hne])
    simpa using this
  have hvg : ∀ x, v.ownBlock = some x → x ≠ g := fun x e => by have := hfr x e; omega
  have hfg : ∀ j, j < k → ∀ x, (f j).ownBlock = some x → x ≠ g := fun j hj x e hxg => by
    have h1 := h.ap x
    have h2 := sumTo_ge n (fun j => cb x (f j)) j (by omega)
    simp only [cb_one e] at h2
    rw [if_pos (by omega)] at h1
    omega
  refine ⟨(((hb'.rowIs h.row (fun e => e))).set k v), fun j hj => ?_, fun j hj => ?_, fun j hj => ?_, fun x => ?_, fun x hx => ?_⟩
  · by_cases e : j = k
    · subst e; simp only [if_pos rfl]; exact hkp.own ho (fun x e => hvg x e)
    · simp only [if_neg e]; exact hkp.own (hb'.own (h.own j (by omega)) (fun _ _ e => e)) (hfg j (by omega))
  · by_cases e : j = k
    · subst e; simp only [if_pos rfl]; exact hv
    · simp only [if_neg e]; exact h.isNil j (by omega)
  · simp only [if_neg (show ¬ j = k by omega)]; exact h.rest j (by omega)
  · have h1 := turn x
    have h2 := h.ap x
    by_cases e : v.ownBlock = some x
    · have h3 := hfr x e
      have h4 := h.lt x h3
      rw [if_neg (by omega)]
      rw [cb_one e] at h1
      omega
    · have h5 : cb x v = 0 := if_neg e
      omega
  · have h1 := turn x
    have hsz : w'.heap.size ≤ x := by simpa [World.setCell] using hx
    have h2 := h.lt x (Nat.le_trans hb.size hsz)
    have h3 := own_lt ho hsz
    omega

theorem Ents.belowG {w w' : World} {a : Option Addr} {es : List E} {g : Nat} (h : Ents w a es) (hb : Below g w w') (hg : w.heap.size = g) : Ents w' a es := h.below (by rw [hg]; exact hb)

set_option maxRecDepth 100000 in
set_option maxHeartbeats 2000000 in
theorem tss_some (ad : Addr) (n cap : Nat) (L : Nat → List E) (A : Nat → Option Addr) (C : Nat → Nat) (w : World) (hn : n ≤ 1048576) (hc : 0 < n → ∃ b o, ad = ⟨b, o, none⟩ ∧ Rws w b o n L A C) (hlen : ∀ i, i < n → (L i).length ≤ 1048576) :
    Calls Try.prog 10 #[.slice (some ad) n cap] w fun e w' => e = .returned (.slice (some ⟨w.heap.size, 0, none⟩) n n) ∧ (∃ f, Tsd w' w.heap.size n L A f n) ∧ Below w.heap.size w w' := by
  have hmk := run_make_row' (P := Try.prog) 30 34 (.slice none 0 0) 24 Try.underlying30 Try.info34' rfl .i64 .i64 n (by omega) (by omega)
  have hne := fun w' : World => Lib.run_eql_slice_nil (P := Try.prog) w' 22 24 (some ad) n cap 0 0 Try.underlying22
  have HC := Hid.mk hc
  have HL := Hid.mk hlen
  clear hc hlen
  have hrow0 := Hid.mk (World.rowIs_made w (.slice none 0 0) n 34)
  have hb0 : Hid (Below w.heap.size w (w.alloc (.cells (madeCells #[Value.slice none 0 0] n) 34))) := (Below.refl _ _).alloc (Nat.le_refl _) _
  go_enter Try.func10, Try.ntmps10
  go_wp2
  go_loopw [4] (fun i wr => ∃ (k : Nat) (f : Nat → Value), k ≤ n ∧ i = .int .i64 k ∧ Hid (Tsd wr w.heap.size n L A f k) ∧ Hid (Below w.heap.size w wr)) (fun i _ => n - (intOf i).toNat)
  case atStart => exact ⟨0, _, Nat.zero_le _, rfl, ⟨hrow0.out, fun j hj => by omega, fun j hj => by omega, fun j _ => rfl, fun x => by rw [sumTo_zero n _ (fun i _ => cb_nil x)]; split <;> omega, fun x _ => sumTo_zero n _ (fun i _ => cb_nil x)⟩, hb0⟩
  case round =>
    obtain ⟨k, f, hk, rfl, hts, hbe⟩ := hrel
    by_cases hlt : k < n
    · have hlt' : (k : Int) < (n : Int) := by omega
      obtain ⟨b, o, rfl, hR⟩ := HC.out (by omega)
      obtain ⟨hc, hE, hN⟩ := hR k hlt
      have hcell := (hbe.out.cell (p := ⟨b, o + k, none⟩) (World.block_lt_of_cell? w _ hc)).trans hc
      have hlk := HL.out k hlt
      have hd := hts.out.row.cell hlt
      have hfz := hts.out.row.frozen k
      have hglt : w.heap.size < wr.heap.size := World.block_lt_of_cell? wr _ hd
      have HE := Hid.mk (hE.below hbe.out)
      have HN := Hid.mk hN
      clear hR hc hE hN
      obtain ⟨ai, hai⟩ : ∃ ai, A k = ai := ⟨_, rfl⟩
      obtain ⟨ci, hci⟩ : ∃ ci, C k = ci := ⟨_, rfl⟩
      obtain ⟨ll, hll⟩ : ∃ ll, (L k).length = ll := ⟨_, rfl⟩
      rw [hai, hci, hll] at hcell
      have HAI := Hid.mk hai
      have HCI := Hid.mk hci
      have HLL := Hid.mk hll
      rw [hll] at hlk
      clear hai hci hll
      cases ai with
      | none =>
        obtain ⟨hz0, hc0⟩ := HN.out HAI.out
        obtain rfl : ll = 0 := by rw [← HLL.out]; exact hz0
        obtain rfl : ci = 0 := by rw [← HCI.out]; exact hc0
        clear hz0 hc0
        go_wp2_with fail
        refine (tos_none wr).mono ?_
        rintro e w1 ⟨rfl, hw1⟩
        obtain rfl : w1 = wr := hw1
        go_wp2
        go_roundw
        case rel =>
          refine ⟨k + 1, _, by omega, by go_num, hts.out.next (v := .slice none 0 0) hlt hglt (Below.refl _ _) ?_ ⟨fun _ => HAI.out, fun _ => rfl⟩ (fun x e => by cases e), hbe.out.setCell (Nat.le_refl _) _⟩
          have e0 : L k = [] := List.eq_nil_of_length_eq_zero HLL.out
          rw [e0]
          exact ⟨rfl, Or.inl ⟨rfl, rfl⟩⟩
        case measure => simp [intOf]; omega
      | some x =>
        go_wp2_with fail
        refine (tos_some x ll ci (L k) wr HLL.out hlk (by have := HE.out; rw [HAI.out] at this; exact this)).mono ?_
        rintro e w1 ⟨rfl, ho1, hb1⟩
        have HO1 := Hid.mk ho1
        have HB1 := Hid.mk hb1
        have hkp : Kp (fun _ => False) wr w1 := ⟨hb1.os, hb1.tape, hb1.output, hb1.size, fun i hi _ => hb1.block i hi⟩
        have hrow1 := hkp.rowIs hts.out.row (fun e => e)
        have hd1 := hrow1.cell hlt
        have hfz1 := hrow1.frozen k
        have HBE1 := Hid.mk (hbe.out.trans (hb1.mono hbe.out.size))
        clear ho1 hb1 hkp hrow1 hd hfz hcell
        go_wp2
        go_roundw
        case rel =>
          refine ⟨k + 1, _, by omega, by go_num, hts.out.next (v := .slice (some ⟨wr.heap.size, 0, none⟩) ll ll) hlt hglt HB1.out HO1.out ⟨(fun e => by cases e), (fun e => by rw [HAI.out] at e; cases e)⟩ (fun x e => by have h9 : wr.heap.size = x := Option.some.inj e; omega), HBE1.out.setCell (Nat.le_refl _) _⟩
        case measure => simp [intOf]; omega
    · obtain rfl : n = k := by omega
      go_wp2
      go_ret
      exact ⟨rfl, ⟨f, hts.out⟩, hbe.out⟩
end Go.Proofs.Qxb6606351a
