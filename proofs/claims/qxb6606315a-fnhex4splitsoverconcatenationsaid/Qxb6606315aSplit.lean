/-
  The walks of FnHex4SplitsOverConcatenation: each argument nil or not.
-/
import Derived.Test.Qxb6606315aClone
namespace Go.Proofs.Qxb6606315a
open Go.ChangeShapes Go.WideShapes Go.ChangeAt Go.RowKit
set_option linter.unusedVariables false

theorem Hid.mk {p : Prop} (h : p) : Hid p := h

theorem lies_news {w : World} {a : Option Addr} {zs : List Int} (h : Lies w a zs) : ∀ ad, a = some ad → ∀ j u, (zs.map (Value.int .u8))[j]? = some u → w.cell? (ad.add j) = some u := by
  intro ad had j v hj
  simp only [List.getElem?_map, Option.map_eq_some_iff] at hj
  obtain ⟨x, hx, rfl⟩ := hj
  obtain ⟨hlt, hxe⟩ := List.getElem?_eq_some_iff.1 hx
  rcases h with h0 | ⟨b, off, ha, hc⟩
  · subst h0; simp at hlt
  · rw [ha] at had
    obtain rfl := Option.some.inj had
    rw [Addr.add_lit, hc j hlt]
    simp [List.getD, hx]

theorem lies_own {w : World} {base g n cap : Nat} {zs : List Int} (h : w.ownsRow base 5 1 (.slice (some ⟨g, 0, none⟩) n cap) n (zs.map (Value.int .u8))) : Lies w (some ⟨g, 0, none⟩) zs := by
  refine Or.inr ⟨g, 0, rfl, fun i hi => ?_⟩
  have := h.cells (g := g) rfl i (.int .u8 (zs.getD i 0)) (by simp [List.getD, hi])
  rw [Addr.add_lit] at this
  exact this

set_option maxHeartbeats 1000000 in
theorem law5_ss (ax : Addr) (la ca : Nat) (bx : Addr) (lb cb : Nat) (za zb : List Int) (w : World) (hlen : la + lb ≤ 1048576) (hza : za.length = la) (hzb : zb.length = lb) (hla : Lies w (some ax) za) (hlb : Lies w (some bx) zb) :
    Calls Try.prog 5 #[.slice (some ax) la ca, .slice (some bx) lb cb] w fun e w' => e = .returned (.bool true) ∧ Below w.heap.size w w' := by
  have hmka := run_make_row' (P := Try.prog) 22 5 (.int .u8 0) 1 Try.underlying22 Try.info5 rfl .i64 .i64 la (by omega) (by omega)
  have hmkb := run_make_row' (P := Try.prog) 22 5 (.int .u8 0) 1 Try.underlying22 Try.info5 rfl .i64 .i64 lb (by omega) (by omega)
  have hnea := fun w' : World => run_neq_slice_nil_any (P := Try.prog) w' 22 5 (some ax) la ca 0 0 Try.underlying22
  have hneb := fun w' : World => run_neq_slice_nil_any (P := Try.prog) w' 22 5 (some bx) lb cb 0 0 Try.underlying22
  obtain ⟨i0, hi, hz0, hz1, hz2⟩ := info_parts Try.info5
  have HZA : Hid (za.length = la) := hza
  have HZB : Hid (zb.length = lb) := hzb
  have HLA : Hid (Lies w (some ax) za) := hla
  have HLB : Hid (Lies w (some bx) zb) := hlb
  have HI : Hid (Try.prog.info? 5 = some i0) := hi
  have HI0 : Hid (i0.zero = some (.int .u8 0)) := hz0
  have HI1 : Hid (i0.size = 1) := hz1
  have HI2 : Hid (i0.bytes = 1) := hz2
  clear hza hzb hla hlb hi hz0 hz1 hz2
  go_enter Try.func5, Try.ntmps5
  go_wp2_with (first | (go_at_call 10; go_in) | (with_reducible refine at_copy _ _ _ _ rfl ?_; refine wpList_copy_clone w rfl _ _ 22 22 rfl Try.underlying22 Try.size5 _ _ _ rfl rfl za HZA HLA ?_))
  intro w1 hrow1 hb1 hlt1
  have HR1 : Hid (RowIn w1 w.heap.size za) := hrow1
  have HLB1 : Hid (Lies w1 (some bx) zb) := HLB.out.below hb1
  clear hrow1
  go_wp2_with (first | (go_at_call 10; go_in) | (with_reducible refine at_copy _ _ _ _ rfl ?_; refine wpList_copy_clone w1 rfl _ _ 22 22 rfl Try.underlying22 Try.size5 _ _ _ rfl rfl zb HZB HLB1 ?_))
  intro w2 hrow2 hb2 hlt2
  have SA : Hid (Lies w2 (some ⟨w.heap.size, 0, none⟩) za) := (HR1.out.below hb2 hlt1).lies
  have hB : Below w.heap.size w w2 := hb1.trans (hb2.mono (by omega))
  have SB : Hid (Lies w2 (some ⟨w1.heap.size, 0, none⟩) zb) := hrow2.lies
  clear hrow2 hb2
  have hS : w.heap.size ≤ w2.heap.size := hB.size
  go_wp2_with (first | (go_at_call 10; go_in) | (at_make; refine wpList_make_own _ rfl _ _ 22 rfl w.heap.size 5 i0 (.int .u8 0) 1 Try.underlying22 HI.out HI0.out HI1.out _ _ _ (la + lb) rfl rfl ?_ ?_ ?_ ?_ ?_))
  case refine_1 => omega
  case refine_2 => rw [HI2.out]; omega
  case refine_3 => unfold maxLen; omega
  case refine_4 => exact hS
  intro w3 hown3 hgrow3
  have HO3 := Hid.mk hown3
  have hB3 : Below w2.heap.size w2 w3 := (Below.refl _ _).grown hgrow3 (Nat.le_refl _) (by simp)
  have SA3 := Hid.mk (SA.out.below hB3)
  clear hown3 hgrow3
  go_wp2_with (first | (at_builtin; refine wpList_append_fits_any _ rfl (.tmp 50) (.tmp 51) 22 rfl w.heap.size 5 i0 1 Try.underlying22 HI.out HI1.out w2.heap.size 0 (la + lb) [] rfl HO3.out (some ⟨w.heap.size, 0, none⟩) la la (za.map (Value.int .u8)) rfl ?_ (fun h => by cases h) ?_ ?_ ?_ ?_))
  case refine_1 => simp [HZA.out]
  case refine_2 => exact lies_news SA3.out
  case refine_3 => exact ints_oneCell _ _
  case refine_4 => omega
  intro w4 hown4 hgrow4
  try rw [List.nil_append] at hown4
  have HO4 := Hid.mk hown4
  have hB4 : Below w2.heap.size w2 w4 := hB3.grown hgrow4 (by have := hB3.size; omega) (by intro k hk; have := Option.some.inj hk; omega)
  have SB4 := Hid.mk (SB.out.below hB4)
  clear hown4 hgrow4
  go_wp2_with (first | (at_builtin; refine wpList_append_fits_any _ rfl (.tmp 53) (.tmp 54) 22 rfl w.heap.size 5 i0 1 Try.underlying22 HI.out HI1.out w2.heap.size la (la + lb) (za.map (Value.int .u8)) rfl HO4.out (some ⟨w1.heap.size, 0, none⟩) lb lb (zb.map (Value.int .u8)) rfl ?_ (fun h => by cases h) ?_ ?_ ?_ ?_))
  case refine_1 => simp [HZB.out]
  case refine_2 => exact lies_news SB4.out
  case refine_3 => exact ints_oneCell _ _
  case refine_4 => omega
  intro w5 hown5 hgrow5
  have hB5 : Below w2.heap.size w2 w5 := hB4.grown hgrow5 (by have := hB4.size; omega) (by intro k hk; have := Option.some.inj hk; omega)
  have SC : Hid (Lies w5 (some ⟨w2.heap.size, 0, none⟩) (za ++ zb)) := lies_own (by rw [List.map_append]; exact hown5)
  have SA5 := Hid.mk (SA.out.below hB5)
  have SB5 := Hid.mk (SB.out.below hB5)
  have hEnd : Below w.heap.size w w5 := hB.trans (hB5.mono hS)
  clear hown5 hgrow5 SA3 SB4 HO3 HO4 hB3 hB4 SA SB hB5
  go_wp2_with fail
  refine (zzhex4_any none 0 0 [] _ rfl (by omega) (Or.inl rfl)).mono ?_
  rintro e w5 ⟨rfl, rfl⟩
  go_wp2_with fail
  refine (zzhex4_any (some ⟨w2.heap.size, 0, none⟩) (la + lb) (la + lb) (za ++ zb) w5 (by rw [List.length_append, HZA.out, HZB.out]; try omega) (by omega) SC.out).mono ?_
  rintro e w5 ⟨rfl, rfl⟩
  go_wp2_with fail
  refine (zzhex4_any (some ⟨w.heap.size, 0, none⟩) la la za w5 HZA.out (by omega) SA5.out).mono ?_
  rintro e w5 ⟨rfl, rfl⟩
  try rw [List.all_append]
  generalize hA : za.all hexB = A
  generalize hBB : zb.all hexB = B
  have HBB : Hid (zb.all hexB = B) := hBB
  clear hA hBB
  cases A with
  | true =>
    go_wp2_with fail
    refine (zzhex4_any (some ⟨w1.heap.size, 0, none⟩) lb lb zb w5 HZB.out (by omega) SB5.out).mono ?_
    rintro e w5 ⟨rfl, rfl⟩
    rw [HBB.out]
    go_wp2
    go_ret
    exact ⟨ret_bool (by simp), hEnd⟩
  | false =>
    go_wp2
    go_ret
    exact ⟨ret_bool (by simp), hEnd⟩

set_option maxHeartbeats 1000000 in
theorem law5_ns (bx : Addr) (lb cb : Nat) (za zb : List Int) (w : World) (hlen : 0 + lb ≤ 1048576) (hza : za.length = 0) (hzb : zb.length = lb) (hla : Lies w none za) (hlb : Lies w (some bx) zb) :
    Calls Try.prog 5 #[.slice none 0 0, .slice (some bx) lb cb] w fun e w' => e = .returned (.bool true) ∧ Below w.heap.size w w' := by
  have hmkb := run_make_row' (P := Try.prog) 22 5 (.int .u8 0) 1 Try.underlying22 Try.info5 rfl .i64 .i64 lb (by omega) (by omega)
  have hnea := fun w' : World => run_neq_slice_nil_any (P := Try.prog) w' 22 5 none 0 0 0 0 Try.underlying22
  have hneb := fun w' : World => run_neq_slice_nil_any (P := Try.prog) w' 22 5 (some bx) lb cb 0 0 Try.underlying22
  obtain ⟨i0, hi, hz0, hz1, hz2⟩ := info_parts Try.info5
  have HZA : Hid (za.length = 0) := hza
  have HZB : Hid (zb.length = lb) := hzb
  have HLA : Hid (Lies w none za) := hla
  have HLB : Hid (Lies w (some bx) zb) := hlb
  have HI : Hid (Try.prog.info? 5 = some i0) := hi
  have HI0 : Hid (i0.zero = some (.int .u8 0)) := hz0
  have HI1 : Hid (i0.size = 1) := hz1
  have HI2 : Hid (i0.bytes = 1) := hz2
  clear hza hzb hla hlb hi hz0 hz1 hz2
  go_enter Try.func5, Try.ntmps5
  go_wp2_with (first | (go_at_call 10; go_in) | (with_reducible refine at_copy _ _ _ _ rfl ?_; refine wpList_copy_clone w rfl _ _ 22 22 rfl Try.underlying22 Try.size5 _ _ _ rfl rfl zb HZB HLB ?_))
  intro w2 hrow2 hb2 hlt2
  have SA : Hid (Lies w2 none za) := HLA.out.below hb2
  have hB : Below w.heap.size w w2 := hb2
  have SB : Hid (Lies w2 (some ⟨w.heap.size, 0, none⟩) zb) := hrow2.lies
  clear hrow2 hb2
  have hS : w.heap.size ≤ w2.heap.size := hB.size
  go_wp2_with (first | (go_at_call 10; go_in) | (at_make; refine wpList_make_own _ rfl _ _ 22 rfl w.heap.size 5 i0 (.int .u8 0) 1 Try.underlying22 HI.out HI0.out HI1.out _ _ _ (lb) rfl rfl ?_ ?_ ?_ ?_ ?_))
  case refine_1 => omega
  case refine_2 => rw [HI2.out]; omega
  case refine_3 => unfold maxLen; omega
  case refine_4 => exact hS
  intro w3 hown3 hgrow3
  have HO3 := Hid.mk hown3
  have hB3 : Below w2.heap.size w2 w3 := (Below.refl _ _).grown hgrow3 (Nat.le_refl _) (by simp)
  have SA3 := Hid.mk (SA.out.below hB3)
  clear hown3 hgrow3
  go_wp2_with (first | (at_builtin; refine wpList_append_fits_any _ rfl (.tmp 50) (.tmp 51) 22 rfl w.heap.size 5 i0 1 Try.underlying22 HI.out HI1.out w2.heap.size 0 (lb) [] rfl HO3.out none 0 0 (za.map (Value.int .u8)) rfl ?_ (fun _ => ⟨rfl, rfl⟩) ?_ ?_ ?_ ?_))
  case refine_1 => simp [HZA.out]
  case refine_2 => exact lies_news SA3.out
  case refine_3 => exact ints_oneCell _ _
  case refine_4 => omega
  intro w4 hown4 hgrow4
  try rw [List.nil_append] at hown4
  have HO4 := Hid.mk hown4
  have hB4 : Below w2.heap.size w2 w4 := hB3.grown hgrow4 (by have := hB3.size; omega) (by intro k hk; have := Option.some.inj hk; omega)
  have SB4 := Hid.mk (SB.out.below hB4)
  clear hown4 hgrow4
  go_wp2_with (first | (at_builtin; refine wpList_append_fits_any _ rfl (.tmp 53) (.tmp 54) 22 rfl w.heap.size 5 i0 1 Try.underlying22 HI.out HI1.out w2.heap.size 0 (lb) (za.map (Value.int .u8)) rfl HO4.out (some ⟨w.heap.size, 0, none⟩) lb lb (zb.map (Value.int .u8)) rfl ?_ (fun h => by cases h) ?_ ?_ ?_ ?_))
  case refine_1 => simp [HZB.out]
  case refine_2 => exact lies_news SB4.out
  case refine_3 => exact ints_oneCell _ _
  case refine_4 => omega
  intro w5 hown5 hgrow5
  have hB5 : Below w2.heap.size w2 w5 := hB4.grown hgrow5 (by have := hB4.size; omega) (by intro k hk; have := Option.some.inj hk; omega)
  have SC : Hid (Lies w5 (some ⟨w2.heap.size, 0, none⟩) (za ++ zb)) := lies_own (by rw [List.map_append]; exact hown5)
  have SA5 := Hid.mk (SA.out.below hB5)
  have SB5 := Hid.mk (SB.out.below hB5)
  have hEnd : Below w.heap.size w w5 := hB.trans (hB5.mono hS)
  clear hown5 hgrow5 SA3 SB4 HO3 HO4 hB3 hB4 SA SB hB5
  go_wp2_with fail
  refine (zzhex4_any none 0 0 [] _ rfl (by omega) (Or.inl rfl)).mono ?_
  rintro e w5 ⟨rfl, rfl⟩
  go_wp2_with fail
  refine (zzhex4_any (some ⟨w2.heap.size, 0, none⟩) (lb) (lb) (za ++ zb) w5 (by rw [List.length_append, HZA.out, HZB.out]; try omega) (by omega) SC.out).mono ?_
  rintro e w5 ⟨rfl, rfl⟩
  go_wp2_with fail
  refine (zzhex4_any none 0 0 za w5 HZA.out (by omega) SA5.out).mono ?_
  rintro e w5 ⟨rfl, rfl⟩
  try rw [List.all_append]
  generalize hA : za.all hexB = A
  generalize hBB : zb.all hexB = B
  have HBB : Hid (zb.all hexB = B) := hBB
  clear hA hBB
  cases A with
  | true =>
    go_wp2_with fail
    refine (zzhex4_any (some ⟨w.heap.size, 0, none⟩) lb lb zb w5 HZB.out (by omega) SB5.out).mono ?_
    rintro e w5 ⟨rfl, rfl⟩
    rw [HBB.out]
    go_wp2
    go_ret
    exact ⟨ret_bool (by simp), hEnd⟩
  | false =>
    go_wp2
    go_ret
    exact ⟨ret_bool (by simp), hEnd⟩

set_option maxHeartbeats 1000000 in
theorem law5_sn (ax : Addr) (la ca : Nat) (za zb : List Int) (w : World) (hlen : la + 0 ≤ 1048576) (hza : za.length = la) (hzb : zb.length = 0) (hla : Lies w (some ax) za) (hlb : Lies w none zb) :
    Calls Try.prog 5 #[.slice (some ax) la ca, .slice none 0 0] w fun e w' => e = .returned (.bool true) ∧ Below w.heap.size w w' := by
  have hmka := run_make_row' (P := Try.prog) 22 5 (.int .u8 0) 1 Try.underlying22 Try.info5 rfl .i64 .i64 la (by omega) (by omega)
  have hnea := fun w' : World => run_neq_slice_nil_any (P := Try.prog) w' 22 5 (some ax) la ca 0 0 Try.underlying22
  have hneb := fun w' : World => run_neq_slice_nil_any (P := Try.prog) w' 22 5 none 0 0 0 0 Try.underlying22
  obtain ⟨i0, hi, hz0, hz1, hz2⟩ := info_parts Try.info5
  have HZA : Hid (za.length = la) := hza
  have HZB : Hid (zb.length = 0) := hzb
  have HLA : Hid (Lies w (some ax) za) := hla
  have HLB : Hid (Lies w none zb) := hlb
  have HI : Hid (Try.prog.info? 5 = some i0) := hi
  have HI0 : Hid (i0.zero = some (.int .u8 0)) := hz0
  have HI1 : Hid (i0.size = 1) := hz1
  have HI2 : Hid (i0.bytes = 1) := hz2
  clear hza hzb hla hlb hi hz0 hz1 hz2
  go_enter Try.func5, Try.ntmps5
  go_wp2_with (first | (go_at_call 10; go_in) | (with_reducible refine at_copy _ _ _ _ rfl ?_; refine wpList_copy_clone w rfl _ _ 22 22 rfl Try.underlying22 Try.size5 _ _ _ rfl rfl za HZA HLA ?_))
  intro w1 hrow1 hb1 hlt1
  have HR1 : Hid (RowIn w1 w.heap.size za) := hrow1
  have HLB1 : Hid (Lies w1 none zb) := HLB.out.below hb1
  clear hrow1
  have SA : Hid (Lies w1 (some ⟨w.heap.size, 0, none⟩) za) := HR1.out.lies
  have SB : Hid (Lies w1 none zb) := HLB1
  have hB : Below w.heap.size w w1 := hb1
  have hS : w.heap.size ≤ w1.heap.size := hB.size
  go_wp2_with (first | (go_at_call 10; go_in) | (at_make; refine wpList_make_own _ rfl _ _ 22 rfl w.heap.size 5 i0 (.int .u8 0) 1 Try.underlying22 HI.out HI0.out HI1.out _ _ _ (la) rfl rfl ?_ ?_ ?_ ?_ ?_))
  case refine_1 => omega
  case refine_2 => rw [HI2.out]; omega
  case refine_3 => unfold maxLen; omega
  case refine_4 => exact hS
  intro w3 hown3 hgrow3
  have HO3 := Hid.mk hown3
  have hB3 : Below w1.heap.size w1 w3 := (Below.refl _ _).grown hgrow3 (Nat.le_refl _) (by simp)
  have SA3 := Hid.mk (SA.out.below hB3)
  clear hown3 hgrow3
  go_wp2_with (first | (at_builtin; refine wpList_append_fits_any _ rfl (.tmp 50) (.tmp 51) 22 rfl w.heap.size 5 i0 1 Try.underlying22 HI.out HI1.out w1.heap.size 0 (la) [] rfl HO3.out (some ⟨w.heap.size, 0, none⟩) la la (za.map (Value.int .u8)) rfl ?_ (fun h => by cases h) ?_ ?_ ?_ ?_))
  case refine_1 => simp [HZA.out]
  case refine_2 => exact lies_news SA3.out
  case refine_3 => exact ints_oneCell _ _
  case refine_4 => omega
  intro w4 hown4 hgrow4
  try rw [List.nil_append] at hown4
  have HO4 := Hid.mk hown4
  have hB4 : Below w1.heap.size w1 w4 := hB3.grown hgrow4 (by have := hB3.size; omega) (by intro k hk; have := Option.some.inj hk; omega)
  have SB4 := Hid.mk (SB.out.below hB4)
  clear hown4 hgrow4
  go_wp2_with (first | (at_builtin; refine wpList_append_fits_any _ rfl (.tmp 53) (.tmp 54) 22 rfl w.heap.size 5 i0 1 Try.underlying22 HI.out HI1.out w1.heap.size la (la) (za.map (Value.int .u8)) rfl HO4.out none 0 0 (zb.map (Value.int .u8)) rfl ?_ (fun _ => ⟨rfl, rfl⟩) ?_ ?_ ?_ ?_))
  case refine_1 => simp [HZB.out]
  case refine_2 => exact lies_news SB4.out
  case refine_3 => exact ints_oneCell _ _
  case refine_4 => omega
  intro w5 hown5 hgrow5
  have hB5 : Below w1.heap.size w1 w5 := hB4.grown hgrow5 (by have := hB4.size; omega) (by intro k hk; have := Option.some.inj hk; omega)
  have SC : Hid (Lies w5 (some ⟨w1.heap.size, 0, none⟩) (za ++ zb)) := lies_own (by rw [List.map_append]; exact hown5)
  have SA5 := Hid.mk (SA.out.below hB5)
  have SB5 := Hid.mk (SB.out.below hB5)
  have hEnd : Below w.heap.size w w5 := hB.trans (hB5.mono hS)
  clear hown5 hgrow5 SA3 SB4 HO3 HO4 hB3 hB4 SA SB hB5
  go_wp2_with fail
  refine (zzhex4_any none 0 0 [] _ rfl (by omega) (Or.inl rfl)).mono ?_
  rintro e w5 ⟨rfl, rfl⟩
  go_wp2_with fail
  refine (zzhex4_any (some ⟨w1.heap.size, 0, none⟩) (la) (la) (za ++ zb) w5 (by rw [List.length_append, HZA.out, HZB.out]; try omega) (by omega) SC.out).mono ?_
  rintro e w5 ⟨rfl, rfl⟩
  go_wp2_with fail
  refine (zzhex4_any (some ⟨w.heap.size, 0, none⟩) la la za w5 HZA.out (by omega) SA5.out).mono ?_
  rintro e w5 ⟨rfl, rfl⟩
  try rw [List.all_append]
  generalize hA : za.all hexB = A
  generalize hBB : zb.all hexB = B
  have HBB : Hid (zb.all hexB = B) := hBB
  clear hA hBB
  cases A with
  | true =>
    go_wp2_with fail
    refine (zzhex4_any none 0 0 zb w5 HZB.out (by omega) SB5.out).mono ?_
    rintro e w5 ⟨rfl, rfl⟩
    rw [HBB.out]
    go_wp2
    go_ret
    exact ⟨ret_bool (by simp), hEnd⟩
  | false =>
    go_wp2
    go_ret
    exact ⟨ret_bool (by simp), hEnd⟩

set_option maxHeartbeats 1000000 in
theorem law5_nn (za zb : List Int) (w : World) (hlen : 0 + 0 ≤ 1048576) (hza : za.length = 0) (hzb : zb.length = 0) (hla : Lies w none za) (hlb : Lies w none zb) :
    Calls Try.prog 5 #[.slice none 0 0, .slice none 0 0] w fun e w' => e = .returned (.bool true) ∧ Below w.heap.size w w' := by
  have hnea := fun w' : World => run_neq_slice_nil_any (P := Try.prog) w' 22 5 none 0 0 0 0 Try.underlying22
  obtain ⟨i0, hi, hz0, hz1, hz2⟩ := info_parts Try.info5
  have HZA : Hid (za.length = 0) := hza
  have HZB : Hid (zb.length = 0) := hzb
  have HLA : Hid (Lies w none za) := hla
  have HLB : Hid (Lies w none zb) := hlb
  have HI : Hid (Try.prog.info? 5 = some i0) := hi
  have HI0 : Hid (i0.zero = some (.int .u8 0)) := hz0
  have HI1 : Hid (i0.size = 1) := hz1
  have HI2 : Hid (i0.bytes = 1) := hz2
  clear hza hzb hla hlb hi hz0 hz1 hz2
  go_enter Try.func5, Try.ntmps5
  have SA : Hid (Lies w none za) := HLA
  have SB : Hid (Lies w none zb) := HLB
  have hB : Below w.heap.size w w := Below.refl _ _
  have hS : w.heap.size ≤ w.heap.size := hB.size
  go_wp2_with (first | (go_at_call 10; go_in) | (at_make; refine wpList_make_own _ rfl _ _ 22 rfl w.heap.size 5 i0 (.int .u8 0) 1 Try.underlying22 HI.out HI0.out HI1.out _ _ _ (0) rfl rfl ?_ ?_ ?_ ?_ ?_))
  case refine_1 => omega
  case refine_2 => rw [HI2.out]; omega
  case refine_3 => unfold maxLen; omega
  case refine_4 => exact hS
  intro w3 hown3 hgrow3
  have HO3 := Hid.mk hown3
  have hB3 : Below w.heap.size w w3 := (Below.refl _ _).grown hgrow3 (Nat.le_refl _) (by simp)
  have SA3 := Hid.mk (SA.out.below hB3)
  clear hown3 hgrow3
  go_wp2_with (first | (at_builtin; refine wpList_append_fits_any _ rfl (.tmp 50) (.tmp 51) 22 rfl w.heap.size 5 i0 1 Try.underlying22 HI.out HI1.out w.heap.size 0 (0) [] rfl HO3.out none 0 0 (za.map (Value.int .u8)) rfl ?_ (fun _ => ⟨rfl, rfl⟩) ?_ ?_ ?_ ?_))
  case refine_1 => simp [HZA.out]
  case refine_2 => exact lies_news SA3.out
  case refine_3 => exact ints_oneCell _ _
  case refine_4 => omega
  intro w4 hown4 hgrow4
  try rw [List.nil_append] at hown4
  have HO4 := Hid.mk hown4
  have hB4 : Below w.heap.size w w4 := hB3.grown hgrow4 (by have := hB3.size; omega) (by intro k hk; have := Option.some.inj hk; omega)
  have SB4 := Hid.mk (SB.out.below hB4)
  clear hown4 hgrow4
  go_wp2_with (first | (at_builtin; refine wpList_append_fits_any _ rfl (.tmp 53) (.tmp 54) 22 rfl w.heap.size 5 i0 1 Try.underlying22 HI.out HI1.out w.heap.size 0 (0) (za.map (Value.int .u8)) rfl HO4.out none 0 0 (zb.map (Value.int .u8)) rfl ?_ (fun _ => ⟨rfl, rfl⟩) ?_ ?_ ?_ ?_))
  case refine_1 => simp [HZB.out]
  case refine_2 => exact lies_news SB4.out
  case refine_3 => exact ints_oneCell _ _
  case refine_4 => omega
  intro w5 hown5 hgrow5
  have hB5 : Below w.heap.size w w5 := hB4.grown hgrow5 (by have := hB4.size; omega) (by intro k hk; have := Option.some.inj hk; omega)
  have SC : Hid (Lies w5 (some ⟨w.heap.size, 0, none⟩) (za ++ zb)) := lies_own (by rw [List.map_append]; exact hown5)
  have SA5 := Hid.mk (SA.out.below hB5)
  have SB5 := Hid.mk (SB.out.below hB5)
  have hEnd : Below w.heap.size w w5 := hB.trans (hB5.mono hS)
  clear hown5 hgrow5 SA3 SB4 HO3 HO4 hB3 hB4 SA SB hB5
  go_wp2_with fail
  refine (zzhex4_any none 0 0 [] _ rfl (by omega) (Or.inl rfl)).mono ?_
  rintro e w5 ⟨rfl, rfl⟩
  go_wp2_with fail
  refine (zzhex4_any (some ⟨w.heap.size, 0, none⟩) (0) (0) (za ++ zb) w5 (by rw [List.length_append, HZA.out, HZB.out]; try omega) (by omega) SC.out).mono ?_
  rintro e w5 ⟨rfl, rfl⟩
  go_wp2_with fail
  refine (zzhex4_any none 0 0 za w5 HZA.out (by omega) SA5.out).mono ?_
  rintro e w5 ⟨rfl, rfl⟩
  try rw [List.all_append]
  generalize hA : za.all hexB = A
  generalize hBB : zb.all hexB = B
  have HBB : Hid (zb.all hexB = B) := hBB
  clear hA hBB
  cases A with
  | true =>
    go_wp2_with fail
    refine (zzhex4_any none 0 0 zb w5 HZB.out (by omega) SB5.out).mono ?_
    rintro e w5 ⟨rfl, rfl⟩
    rw [HBB.out]
    go_wp2
    go_ret
    exact ⟨ret_bool (by simp), hEnd⟩
  | false =>
    go_wp2
    go_ret
    exact ⟨ret_bool (by simp), hEnd⟩

theorem law5_big (a b : Option Addr) (la ca lb cb : Nat) (w : World) (h : 1048576 < la + lb) (hm : la ≤ 9223372036854775807) (hn : lb ≤ 9223372036854775807) :
    Calls Try.prog 5 #[.slice a la ca, .slice b lb cb] w fun e w' => e = .returned (.bool true) ∧ Below w.heap.size w w' := by
  by_cases h1 : 1048576 < la
  · go_enter Try.func5, Try.ntmps5
    go_wp2
    go_ret
    exact ⟨rfl, Below.refl _ _⟩
  · by_cases h2 : 1048576 < lb
    · go_enter Try.func5, Try.ntmps5
      go_wp2
      go_ret
      exact ⟨rfl, Below.refl _ _⟩
    · go_enter Try.func5, Try.ntmps5
      go_wp2
      go_ret
      exact ⟨rfl, Below.refl _ _⟩

end Go.Proofs.Qxb6606315a
