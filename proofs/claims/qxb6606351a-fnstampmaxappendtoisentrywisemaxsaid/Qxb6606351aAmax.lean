/-
  The walk of appendMax.
-/
import Derived.Test.Qxb6606351aApp
import Derived.Deep.CutBlock
import Derived.Deep.CutRange
import Derived.Deep.DeepCutAuto
namespace Go.Proofs.Qxb6606351a
open Go.ChangeShapes Go.WideShapes Go.ChangeAt Go.RowKit
set_option linter.unusedVariables false
set_option linter.unusedSimpArgs false

/-- What appendMax has done when it stands at i and j. -/
def Mid (w wr : World) (v0 v : Value) (d : Nat) (xs : List Value) (ea eb : List E) (i j : Nat) : Prop :=
  ∃ P : List E, mrg ea eb = P ++ mrg (ea.drop i) (eb.drop j) ∧ P.length ≤ i + j ∧ wr.ownsRow 0 39 2 v (d + P.length) (xs ++ flat P) ∧ Onto w wr v0 v

theorem Onto.far {w wr : World} {v0 v : Value} (h : Onto w wr v0 v) {b : Nat} (hb : b < w.heap.size) (hne : some b ≠ v0.ownBlock) : some b ≠ v.ownBlock := by
  rcases h.2 with h2 | ⟨g, h2, hle⟩
  · rw [h2]; exact hne
  · rw [h2]
    intro e
    have := Option.some.inj e
    omega

theorem Ents.cellsAt {w wr : World} {aa : Option Addr} {ea : List E} {v0 v : Value} (h : Ents w aa ea) (k : Nat) (hk : k < ea.length) (hon : Onto w wr v0 v) (hd : ∀ b o, aa = some ⟨b, o, none⟩ → some b ≠ v0.ownBlock) :
    ∃ b o p c, aa = some ⟨b, o, none⟩ ∧ wr.cell? ⟨b, o + k * 2, none⟩ = some (.int .i64 p) ∧ wr.cell? ⟨b, o + k * 2 + 1, none⟩ = some (.int .u64 c) ∧ ea.drop k = (p, c) :: ea.drop (k + 1) ∧ b < wr.heap.size ∧ some b ≠ v.ownBlock := by
  obtain ⟨b, o, e, hc⟩ := h.at (by omega)
  obtain ⟨h1, h2⟩ := hc k hk
  have hb := World.block_lt_of_cell? w _ h1
  refine ⟨b, o, (ea.getD k (0, 0)).1, (ea.getD k (0, 0)).2, e, ?_, ?_, drop_cons_getD ea k hk, Nat.lt_of_lt_of_le hb hon.1.size, hon.far hb (hd _ _ e)⟩
  · exact (hon.1.cell_far ⟨b, o + k * 2, none⟩ (World.block_lt_of_cell? w _ h1) (hd _ _ e)).trans h1
  · exact (hon.1.cell_far ⟨b, o + k * 2 + 1, none⟩ (World.block_lt_of_cell? w _ h2) (hd _ _ e)).trans h2

theorem Onto.drawn {w wr : World} {v0 v : Value} (h : Onto w wr v0 v) (n : Nat) : Onto w (wr.drewN n) v0 v := ⟨⟨h.1.os, h.1.tape, h.1.output, h.1.size, h.1.block⟩, h.2⟩
theorem Onto.stepDrew {w w1 w2 : World} {o : Obj} {v0 v : Value} {g n c : Nat} (h : Onto w w1 v0 v) (hg : (w1.drew.alloc o).grownBy w2 v.ownBlock) (hv : v.ownBlock = some g ∨ g = w1.heap.size + 1) : Onto w w2 v0 (.slice (some ⟨g, 0, none⟩) n c) :=
  h.step ⟨hg.os, hg.tape, hg.output, Nat.le_trans (by simp) hg.size, fun k hk hne => (hg.block k (by simp; omega) hne).trans (Below.heap_alloc w1.drew o k hk)⟩ (hv.imp (fun e => e.symm) fun e => ⟨g, rfl, by omega⟩)
theorem Onto.stepPlain {w w1 w2 : World} {o : Obj} {v0 v : Value} {g n c : Nat} (h : Onto w w1 v0 v) (hg : (w1.alloc o).grownBy w2 v.ownBlock) (hv : v.ownBlock = some g ∨ g = w1.heap.size + 1) : Onto w w2 v0 (.slice (some ⟨g, 0, none⟩) n c) :=
  h.step (grownBy_alloc hg) (hv.imp (fun e => e.symm) fun e => ⟨g, rfl, by omega⟩)
theorem cellDrew {w1 w2 : World} {o : Obj} {v : Value} {p : Addr} {x : Value} (hc : w1.cell? p = some x) (hb : p.block < w1.heap.size) (hne : some p.block ≠ v.ownBlock) (hg : (w1.drew.alloc o).grownBy w2 v.ownBlock) : w2.cell? p = some x :=
  (World.cell?_of_block ((hg.block p.block (by simp; omega) hne).trans (Below.heap_alloc w1.drew o p.block hb))).trans hc
theorem drawn_own {w : World} {base : Nat} {e : TypeId} {size : Nat} {v : Value} {n : Nat} {xs : List Value} (h : w.ownsRow base e size v n xs) (k : Nat) : (w.drewN k).ownsRow base e size v n xs := h

theorem Ents.news {w : World} {g : Nat} {es : List E} (h : Ents w (some ⟨g, 0, none⟩) es) (a : Nat) : ∀ j u, (flat (es.drop a))[j]? = some u → w.cell? ((⟨g, a * 2, none⟩ : Addr).add j) = some u := by
  intro j u hu
  rw [← flat_drop, List.getElem?_drop] at hu
  have hlt : a * 2 + j < es.length * 2 := by
    have := (List.getElem?_eq_some_iff.1 hu).1
    rw [flat_length] at this
    exact this
  obtain ⟨b, o, e, hc⟩ := h.at (by omega)
  obtain ⟨rfl, rfl⟩ : g = b ∧ 0 = o := by simpa using e
  rw [Addr.add_lit]
  obtain ⟨q, hq⟩ : ∃ q, a * 2 + j = q * 2 ∨ a * 2 + j = q * 2 + 1 := ⟨(a * 2 + j) / 2, by omega⟩
  have hql : q < es.length := by omega
  obtain ⟨f1, f2⟩ := flat_get es q hql
  obtain ⟨c1, c2⟩ := hc q hql
  rcases hq with hq | hq
  · rw [hq] at hu ⊢
    rw [f1] at hu
    rw [← hu, ← c1, Nat.zero_add]
  · rw [hq] at hu ⊢
    rw [f2] at hu
    rw [← hu, ← c2, Nat.zero_add]

theorem Mid.drawn {w wr : World} {v0 v : Value} {d : Nat} {xs : List Value} {ea eb : List E} {i j : Nat} (h : Mid w wr v0 v d xs ea eb i j) (n : Nat) : Mid w (wr.drewN n) v0 v d xs ea eb i j := by
  obtain ⟨P, h1, h2, h3, h4⟩ := h
  exact ⟨P, h1, h2, drawn_own h3 n, Onto.drawn h4 n⟩

theorem Mid.one {w wr : World} {v0 v : Value} {d : Nat} {xs : List Value} {ea eb P : List E} {i j i' j' : Nat} {p c : Int} (hP : mrg ea eb = P ++ mrg (ea.drop i) (eb.drop j)) (hl : P.length ≤ i + j) (hs : mrg (ea.drop i) (eb.drop j) = (p, c) :: mrg (ea.drop i') (eb.drop j')) (hij : i + j + 1 ≤ i' + j')
    (ho : wr.ownsRow 0 39 2 v (d + P.length + 1) (xs ++ flat P ++ [.int .i64 p, .int .u64 c])) (hon : Onto w wr v0 v) : Mid w wr v0 v d xs ea eb i' j' := by
  refine ⟨P ++ [(p, c)], ?_, ?_, ?_, hon⟩
  · rw [hP, hs]; simp
  · simp; omega
  · rw [flat_append, ← List.append_assoc]
    have e : (P ++ [(p, c)]).length = P.length + 1 := by simp
    rw [e]
    exact ho

theorem Mid.both {w wr : World} {v0 v : Value} {d : Nat} {xs : List Value} {ea eb P : List E} {i j : Nat} {p ka kb : Int} (hP : mrg ea eb = P ++ mrg (ea.drop i) (eb.drop j)) (hl : P.length ≤ i + j) (hA : ea.drop i = (p, ka) :: ea.drop (i + 1)) (hB : eb.drop j = (p, kb) :: eb.drop (j + 1))
    (ho : wr.ownsRow 0 39 2 v (d + P.length + 1) (xs ++ flat P ++ [.int .i64 p, .int .u64 (if ka < kb then kb else ka)])) (hon : Onto w wr v0 v) : Mid w wr v0 v d xs ea eb (i + 1) (j + 1) :=
  Mid.one hP hl (by rw [hA, hB, mrg, if_neg (Int.lt_irrefl _), if_neg (Int.lt_irrefl _)]) (by omega) ho hon

theorem Mid.left {w wr : World} {v0 v : Value} {d : Nat} {xs : List Value} {ea eb P : List E} {i j : Nat} {pa pb ka kb : Int} (hP : mrg ea eb = P ++ mrg (ea.drop i) (eb.drop j)) (hl : P.length ≤ i + j) (hA : ea.drop i = (pa, ka) :: ea.drop (i + 1)) (hB : eb.drop j = (pb, kb) :: eb.drop (j + 1)) (hlt : pa < pb)
    (ho : wr.ownsRow 0 39 2 v (d + P.length + 1) (xs ++ flat P ++ [.int .i64 pa, .int .u64 ka])) (hon : Onto w wr v0 v) : Mid w wr v0 v d xs ea eb (i + 1) j :=
  Mid.one hP hl (by rw [hA, hB, mrg, if_pos hlt]) (by omega) ho hon

theorem Mid.right {w wr : World} {v0 v : Value} {d : Nat} {xs : List Value} {ea eb P : List E} {i j : Nat} {pa pb ka kb : Int} (hP : mrg ea eb = P ++ mrg (ea.drop i) (eb.drop j)) (hl : P.length ≤ i + j) (hA : ea.drop i = (pa, ka) :: ea.drop (i + 1)) (hB : eb.drop j = (pb, kb) :: eb.drop (j + 1)) (hlt : pb < pa)
    (ho : wr.ownsRow 0 39 2 v (d + P.length + 1) (xs ++ flat P ++ [.int .i64 pb, .int .u64 kb])) (hon : Onto w wr v0 v) : Mid w wr v0 v d xs ea eb i (j + 1) :=
  Mid.one hP hl (by rw [hA, hB, mrg, if_neg (by omega), if_pos hlt]) (by omega) ho hon

set_option maxRecDepth 100000 in
set_option maxHeartbeats 8000000 in
theorem amax_any (v0 : Value) (d : Nat) (xs : List Value) (aa bb : Option Addr) (la lb ca cb : Nat) (ea eb : List E) (w : World) (hza : ea.length = la) (hzb : eb.length = lb)
    (hown : w.ownsRow 0 39 2 v0 d xs) (ha : Ents w aa ea) (hb : Ents w bb eb) (hca : la ≤ ca) (hcb : lb ≤ cb)
    (hfa : (aa = none ∧ ca = 0) ∨ ∃ g, aa = some ⟨g, 0, none⟩) (hfb : (bb = none ∧ cb = 0) ∨ ∃ g, bb = some ⟨g, 0, none⟩)
    (hda : ∀ b o, aa = some ⟨b, o, none⟩ → some b ≠ v0.ownBlock) (hdb : ∀ b o, bb = some ⟨b, o, none⟩ → some b ≠ v0.ownBlock)
    (sd : d ≤ 10000000) (sa : la ≤ 10000000) (sb : lb ≤ 10000000) :
    Calls Try.prog 30 #[v0, .slice aa la ca, .slice bb lb cb] w fun e w' => ∃ v', e = .returned v' ∧ w'.ownsRow 0 39 2 v' (d + (mrg ea eb).length) (xs ++ flat (mrg ea eb)) ∧ Onto w w' v0 v' := by
  obtain ⟨i0, hi, hz0, hz1, hz2⟩ : ∃ i, Try.prog.info? 39 = some i ∧ i.zero = some (.agg #[.int .i64 0, .int .u64 0]) ∧ i.size = 2 ∧ i.bytes = 16 := by
    obtain ⟨i, hi, hzz⟩ := Option.map_eq_some_iff.1 Try.info39
    simp only [Prod.mk.injEq] at hzz
    exact ⟨i, hi, hzz.1, hzz.2.1, hzz.2.2⟩
  have HI := Hid.mk hi
  have HZ0 := Hid.mk hz0
  have HZ1 := Hid.mk hz1
  have HZ2 := Hid.mk hz2
  have HZA := Hid.mk hza
  have HZB := Hid.mk hzb
  have HO := Hid.mk hown
  have HA := Hid.mk ha
  have HB := Hid.mk hb
  have HFA := Hid.mk hfa
  have HFB := Hid.mk hfb
  have HDA := Hid.mk hda
  have HDB := Hid.mk hdb
  clear hi hz0 hz1 hz2 hza hzb hown ha hb hfa hfb hda hdb
  obtain ⟨nn, hnn⟩ : ∃ nn : Nat, nn = min la lb := ⟨_, rfl⟩
  have hnna : nn ≤ la := by omega
  have hnnb : nn ≤ lb := by omega
  have HNN := Hid.mk hnn
  clear hnn
  go_enter Try.func30, Try.ntmps30
  go_upto_region 2 with fail
  go_cut [8] (fun n wx => n = .int .i64 nn ∧ wx = w)
  case first =>
    go_wp2
    all_goals go_meet
    all_goals refine ⟨?_, rfl⟩
    all_goals have := HNN.out
    all_goals go_num
  case rest =>
    obtain ⟨rfl, hwc⟩ := hcut
    obtain rfl : w = wc := hwc.symm
    go_upto_block 0 with fail
    go_cut [0, 7] (fun v i wx => ∃ k : Nat, k ≤ la ∧ k ≤ lb ∧ i = .int .i64 k ∧ Hid (Mid w wx v0 v d xs ea eb k k))
    case first =>
      go_wp2
      go_loopw [0, 7] (fun v i wr => ∃ k : Nat, k ≤ nn ∧ i = .int .i64 k ∧ Hid (Mid w wr v0 v d xs ea eb k k)) (fun _ i _ => nn - (intOf i).toNat)
      case atStart => exact ⟨0, Nat.zero_le _, rfl, [], rfl, Nat.zero_le _, by show World.ownsRow _ _ _ _ _ d (xs ++ []); rw [List.append_nil]; exact HO.out, Onto.refl _ _⟩
      case round =>
        obtain ⟨k, hk, rfl, hmid⟩ := hrel
        by_cases hlt : k < nn
        · obtain ⟨P, hP, hPl, hPo, hOn⟩ := hmid.out
          have HP := Hid.mk hP
          have HPO := Hid.mk hPo
          have HON := Hid.mk hOn
          clear hP hPo hOn
          obtain ⟨ba, oa, pa, ka, hae, a1, a2, ea1, hla, hna⟩ := HA.out.cellsAt k (by rw [HZA.out]; omega) HON.out HDA.out
          obtain ⟨bb', ob, pb, kb, hbe, b1, b2, eb1, hlb, hnb⟩ := HB.out.cellsAt k (by rw [HZB.out]; omega) HON.out HDB.out
          have HEA := Hid.mk ea1
          have HEB := Hid.mk eb1
          have HNA := Hid.mk hna
          have HNB := Hid.mk hnb
          clear ea1 eb1 hna hnb
          have hlta : (k : Int) < (la : Int) := by omega
          have hltb : (k : Int) < (lb : Int) := by omega
          have hltn : (k : Int) < (nn : Int) := by omega
          subst hae hbe
          by_cases hq : pa = pb
          · subst hq
            have hd : decide (pa = pa) = true := by simp
            go_wp2
            go_quiet (fail)
            have c1 : (wr.drewN nq).cell? ⟨ba, oa + k * 2, none⟩ = some (.int .i64 pa) := a1
            have c2 : (wr.drewN nq).cell? ⟨ba, oa + k * 2 + 1, none⟩ = some (.int .u64 ka) := a2
            have c3 : (wr.drewN nq).cell? ⟨bb', ob + k * 2 + 1, none⟩ = some (.int .u64 kb) := b2
            have hla' : ba < (wr.drewN nq).heap.size := hla
            have hlb' : bb' < (wr.drewN nq).heap.size := hlb
            have HPO1 := Hid.mk (drawn_own HPO.out nq)
            have HON1 := Hid.mk (Onto.drawn HON.out nq)
            clear a1 a2 b1 b2 HPO HON hmid
            generalize wr.drewN nq = w1 at *
            have HPO2 : Hid (w1.drew.ownsRow 0 39 2 u0 (d + P.length) (xs ++ flat P)) := HPO1.out
            go_wp2
            go_region_held3 (fun w' => w'.cell? ⟨ba, oa + k * 2, none⟩ = some (.int .i64 pa) ∧ w'.cell? ⟨ba, oa + k * 2 + 1, none⟩ = some (.int .u64 ka) ∧ w'.cell? ⟨bb', ob + k * 2 + 1, none⟩ = some (.int .u64 kb)) (first | go_keep | (exact ⟨k1, k2, k3⟩))
              ((refine step_append_lies _ (by rfl) _ _ 34 (by rfl) 0 39 i0 (.agg #[.int .i64 0, .int .u64 0]) 2 16 Try.underlying34 HI.out HZ0.out HZ1.out HZ2.out rfl (by omega) _ (d + P.length) _ (by rfl) (HPO2.out.alloc _) ⟨w1.heap.size, 0, none⟩ 1 1 _ (by rfl) (by rfl) (World.news_of_block (heap_alloc_new w1.drew _)) (by intro u hu; simp at hu; rcases hu with rfl | rfl <;> rfl) (by omega) (by unfold maxLen; omega) (by omega) (Nat.zero_le _) (w1.heap.size + 1) (by simp) ?_; intro g2 cp2 w2 hown2 hgrow2 hat2 hlt2; have k1 := cellDrew c1 hla' HNA.out hgrow2; have k2 := cellDrew c2 hla' HNA.out hgrow2; have k3 := cellDrew c3 hlb' HNB.out hgrow2; have HO2 := Hid.mk hown2; have HON2 := Hid.mk (show Onto w w2 v0 (.slice (some ⟨g2, 0, none⟩) (d + P.length + 1) cp2) from HON1.out.stepDrew hgrow2 hat2); clear hown2 hgrow2 hat2 hlt2))
            go_wp2
            go_roundw
            case rel => exact ⟨k + 1, by omega, by go_num, Mid.both HP.out hPl HEA.out HEB.out HO2.out HON2.out⟩
            case measure => simp [intOf]; omega
          · have hd : decide (pa = pb) = false := by simp [hq]
            have HM1 := Hid.mk (Mid.drawn hmid.out)
            clear hmid
            go_wp2
            go_quiet (fail)
            go_wp2
            go_meet
            exact ⟨k, by omega, by omega, rfl, HM1.out nq⟩
        · go_wp2
          go_quiet (fail)
          go_wp2
          go_meet
          exact ⟨k, by omega, by omega, rfl, Mid.drawn hmid.out _⟩
    case rest =>
      obtain ⟨k0, hk0a, hk0b, rfl, hmid0⟩ := hcut
      go_upto_block 2 with fail
      go_cut [0, 7, 9] (fun v i j wx => ∃ a b : Nat, a ≤ la ∧ b ≤ lb ∧ i = .int .i64 a ∧ j = .int .i64 b ∧ (a = la ∨ b = lb) ∧ Hid (Mid w wx v0 v d xs ea eb a b))
      case first =>
        go_wp2
        go_loopw [0, 7, 9] (fun v i j wr => ∃ a b : Nat, a ≤ la ∧ b ≤ lb ∧ i = .int .i64 a ∧ j = .int .i64 b ∧ Hid (Mid w wr v0 v d xs ea eb a b)) (fun _ i j _ => (la - (intOf i).toNat) + (lb - (intOf j).toNat))
        case atStart => exact ⟨k0, k0, hk0a, hk0b, rfl, rfl, hmid0⟩
        case round =>
          obtain ⟨a, b, hka, hkb, rfl, rfl, hmid⟩ := hrel
          by_cases hlt : a < la
          · have hlta : (a : Int) < (la : Int) := by omega
            by_cases hlt2 : b < lb
            · have hltb : (b : Int) < (lb : Int) := by omega
              obtain ⟨P, hP, hPl, hPo, hOn⟩ := hmid.out
              have HP := Hid.mk hP
              have HPO := Hid.mk hPo
              have HON := Hid.mk hOn
              clear hP hPo hOn hmid hmid0
              obtain ⟨ba, oa, pa, ka, hae, a1, a2, ea1, hla, hna⟩ := HA.out.cellsAt a (by rw [HZA.out]; omega) HON.out HDA.out
              obtain ⟨bb', ob, pb, kb, hbe, b1, b2, eb1, hlb, hnb⟩ := HB.out.cellsAt b (by rw [HZB.out]; omega) HON.out HDB.out
              have HEA := Hid.mk ea1
              have HEB := Hid.mk eb1
              have HNA := Hid.mk hna
              have HNB := Hid.mk hnb
              clear ea1 eb1 hna hnb
              subst hae hbe
              by_cases hq : pa < pb
              · go_wp2
                go_quiet (fail)
                have c1 : (wr.drewN nq).cell? ⟨ba, oa + a * 2, none⟩ = some (.int .i64 pa) := a1
                have c2 : (wr.drewN nq).cell? ⟨ba, oa + a * 2 + 1, none⟩ = some (.int .u64 ka) := a2
                have d1 : (wr.drewN nq).cell? ⟨bb', ob + b * 2, none⟩ = some (.int .i64 pb) := b1
                have d2 : (wr.drewN nq).cell? ⟨bb', ob + b * 2 + 1, none⟩ = some (.int .u64 kb) := b2
                have hla' : ba < (wr.drewN nq).heap.size := hla
                have hlb' : bb' < (wr.drewN nq).heap.size := hlb
                have HPO1 := Hid.mk (drawn_own HPO.out nq)
                have HON1 := Hid.mk (Onto.drawn HON.out nq)
                clear a1 a2 b1 b2 HPO HON hla hlb
                generalize wr.drewN nq = w1 at *
                go_wp2_with (at_builtin; refine wpList_append_lies _ rfl _ _ 34 rfl 0 39 i0 (.agg #[.int .i64 0, .int .u64 0]) 2 16 Try.underlying34 HI.out HZ0.out HZ1.out HZ2.out rfl (by omega) _ (d + P.length) _ rfl (HPO1.out.alloc _) ⟨w1.heap.size, 0, none⟩ 1 1 _ rfl (by rfl) (World.news_of_block (heap_alloc_new w1 _)) (by intro u hu; simp at hu; rcases hu with rfl | rfl <;> rfl) (by omega) (by unfold maxLen; omega) (by omega) (Nat.zero_le _) (w1.heap.size + 1) (by simp) ?_)
                intro g2 cp2 w2 hown2 hgrow2 hat2 hlt2
                have HO2 := Hid.mk hown2
                have HON2 := Hid.mk (show Onto w w2 v0 (.slice (some ⟨g2, 0, none⟩) (d + P.length + 1) cp2) from HON1.out.stepPlain hgrow2 hat2)
                clear hown2 hgrow2 hat2 hlt2
                go_wp2
                go_roundw
                case rel => exact ⟨a + 1, b, by omega, by omega, by go_num, by go_num, Mid.left HP.out hPl HEA.out HEB.out hq (by rw [List.append_assoc]; exact HO2.out) HON2.out⟩
                case measure => simp [intOf]; omega
              · by_cases hq2 : pb < pa
                · go_wp2
                  go_quiet (fail)
                  have c1 : (wr.drewN nq).cell? ⟨ba, oa + a * 2, none⟩ = some (.int .i64 pa) := a1
                  have c2 : (wr.drewN nq).cell? ⟨ba, oa + a * 2 + 1, none⟩ = some (.int .u64 ka) := a2
                  have d1 : (wr.drewN nq).cell? ⟨bb', ob + b * 2, none⟩ = some (.int .i64 pb) := b1
                  have d2 : (wr.drewN nq).cell? ⟨bb', ob + b * 2 + 1, none⟩ = some (.int .u64 kb) := b2
                  have hla' : ba < (wr.drewN nq).heap.size := hla
                  have hlb' : bb' < (wr.drewN nq).heap.size := hlb
                  have HPO1 := Hid.mk (drawn_own HPO.out nq)
                  have HON1 := Hid.mk (Onto.drawn HON.out nq)
                  clear a1 a2 b1 b2 HPO HON hla hlb
                  generalize wr.drewN nq = w1 at *
                  go_wp2
                  go_quiet (fail)
                  have c1' : (w1.drewN nq).cell? ⟨ba, oa + a * 2, none⟩ = some (.int .i64 pa) := c1
                  have c2' : (w1.drewN nq).cell? ⟨ba, oa + a * 2 + 1, none⟩ = some (.int .u64 ka) := c2
                  have d1' : (w1.drewN nq).cell? ⟨bb', ob + b * 2, none⟩ = some (.int .i64 pb) := d1
                  have d2' : (w1.drewN nq).cell? ⟨bb', ob + b * 2 + 1, none⟩ = some (.int .u64 kb) := d2
                  have hla2 : ba < (w1.drewN nq).heap.size := hla'
                  have hlb2 : bb' < (w1.drewN nq).heap.size := hlb'
                  have HPO2 := Hid.mk (drawn_own HPO1.out nq)
                  have HON2 := Hid.mk (Onto.drawn HON1.out nq)
                  clear c1 c2 d1 d2 HPO1 HON1 hla' hlb'
                  generalize w1.drewN nq = w1' at *
                  go_wp2_with (at_builtin; refine wpList_append_lies _ rfl _ _ 34 rfl 0 39 i0 (.agg #[.int .i64 0, .int .u64 0]) 2 16 Try.underlying34 HI.out HZ0.out HZ1.out HZ2.out rfl (by omega) _ (d + P.length) _ rfl (HPO2.out.alloc _) ⟨w1'.heap.size, 0, none⟩ 1 1 _ rfl (by rfl) (World.news_of_block (heap_alloc_new w1' _)) (by intro u hu; simp at hu; rcases hu with rfl | rfl <;> rfl) (by omega) (by unfold maxLen; omega) (by omega) (Nat.zero_le _) (w1'.heap.size + 1) (by simp) ?_)
                  intro g2 cp2 w2 hown2 hgrow2 hat2 hlt2
                  have HO2 := Hid.mk hown2
                  have HON3 := Hid.mk (show Onto w w2 v0 (.slice (some ⟨g2, 0, none⟩) (d + P.length + 1) cp2) from HON2.out.stepPlain hgrow2 hat2)
                  clear hown2 hgrow2 hat2 hlt2
                  go_wp2
                  go_roundw
                  case rel => exact ⟨a, b + 1, by omega, by omega, by go_num, by go_num, Mid.right HP.out hPl HEA.out HEB.out hq2 (by rw [List.append_assoc]; exact HO2.out) HON3.out⟩
                  case measure => simp [intOf]; omega
                · obtain rfl : pa = pb := by omega
                  have hq3 : ¬ pa < pa := by omega
                  go_wp2
                  go_quiet (fail)
                  have c1 : (wr.drewN nq).cell? ⟨ba, oa + a * 2, none⟩ = some (.int .i64 pa) := a1
                  have c2 : (wr.drewN nq).cell? ⟨ba, oa + a * 2 + 1, none⟩ = some (.int .u64 ka) := a2
                  have d1 : (wr.drewN nq).cell? ⟨bb', ob + b * 2, none⟩ = some (.int .i64 pa) := b1
                  have d2 : (wr.drewN nq).cell? ⟨bb', ob + b * 2 + 1, none⟩ = some (.int .u64 kb) := b2
                  have hla' : ba < (wr.drewN nq).heap.size := hla
                  have hlb' : bb' < (wr.drewN nq).heap.size := hlb
                  have HPO1 := Hid.mk (drawn_own HPO.out nq)
                  have HON1 := Hid.mk (Onto.drawn HON.out nq)
                  clear a1 a2 b1 b2 HPO HON hla hlb
                  generalize wr.drewN nq = w1 at *
                  go_wp2
                  go_quiet (fail)
                  have c1' : (w1.drewN nq).cell? ⟨ba, oa + a * 2, none⟩ = some (.int .i64 pa) := c1
                  have c2' : (w1.drewN nq).cell? ⟨ba, oa + a * 2 + 1, none⟩ = some (.int .u64 ka) := c2
                  have d1' : (w1.drewN nq).cell? ⟨bb', ob + b * 2, none⟩ = some (.int .i64 pa) := d1
                  have d2' : (w1.drewN nq).cell? ⟨bb', ob + b * 2 + 1, none⟩ = some (.int .u64 kb) := d2
                  have hla2 : ba < (w1.drewN nq).heap.size := hla'
                  have hlb2 : bb' < (w1.drewN nq).heap.size := hlb'
                  have HPO2 := Hid.mk (drawn_own HPO1.out nq)
                  have HON2 := Hid.mk (Onto.drawn HON1.out nq)
                  clear c1 c2 d1 d2 HPO1 HON1 hla' hlb'
                  generalize w1.drewN nq = w1' at *
                  have HPO3 : Hid (w1'.drew.ownsRow 0 39 2 u0 (d + P.length) (xs ++ flat P)) := HPO2.out
                  go_wp2
                  go_region_held3 (fun w' => w'.cell? ⟨ba, oa + a * 2, none⟩ = some (.int .i64 pa) ∧ w'.cell? ⟨ba, oa + a * 2 + 1, none⟩ = some (.int .u64 ka) ∧ w'.cell? ⟨bb', ob + b * 2 + 1, none⟩ = some (.int .u64 kb)) (first | go_keep | (exact ⟨k1, k2, k3⟩))
                    ((refine step_append_lies _ (by rfl) _ _ 34 (by rfl) 0 39 i0 (.agg #[.int .i64 0, .int .u64 0]) 2 16 Try.underlying34 HI.out HZ0.out HZ1.out HZ2.out rfl (by omega) _ (d + P.length) _ (by rfl) (HPO3.out.alloc _) ⟨w1'.heap.size, 0, none⟩ 1 1 _ (by rfl) (by rfl) (World.news_of_block (heap_alloc_new w1'.drew _)) (by intro u hu; simp at hu; rcases hu with rfl | rfl <;> rfl) (by omega) (by unfold maxLen; omega) (by omega) (Nat.zero_le _) (w1'.heap.size + 1) (by simp) ?_; intro g2 cp2 w2 hown2 hgrow2 hat2 hlt2; have k1 := cellDrew c1' hla2 HNA.out hgrow2; have k2 := cellDrew c2' hla2 HNA.out hgrow2; have k3 := cellDrew d2' hlb2 HNB.out hgrow2; have HO2 := Hid.mk hown2; have HON3 := Hid.mk (show Onto w w2 v0 (.slice (some ⟨g2, 0, none⟩) (d + P.length + 1) cp2) from HON2.out.stepDrew hgrow2 hat2); clear hown2 hgrow2 hat2 hlt2))
                  go_wp2
                  go_roundw
                  case rel => exact ⟨a + 1, b + 1, by omega, by omega, by go_num, by go_num, Mid.both HP.out hPl HEA.out HEB.out HO2.out HON3.out⟩
                  case measure => simp [intOf]; omega
            · obtain rfl : lb = b := by omega
              go_wp2
              go_meet
              exact ⟨a, lb, hka, hkb, rfl, rfl, Or.inr rfl, hmid⟩
          · obtain rfl : la = a := by omega
            go_wp2
            go_meet
            exact ⟨la, b, hka, hkb, rfl, rfl, Or.inl rfl, hmid⟩
      case rest =>
        obtain ⟨a, b, hka, hkb, rfl, rfl, hor, hmid⟩ := hcut
        obtain ⟨P, hP, hPl, hPo, hOn⟩ := hmid.out
        have HP := Hid.mk hP
        have HPO := Hid.mk hPo
        have HON := Hid.mk hOn
        have HOR := Hid.mk hor
        have HEA := Hid.mk (HA.out.grown hOn.1 HDA.out)
        clear hP hPo hOn hmid hmid0 hor
        go_upto_region 17 with fail
        go_cut [0] (fun v wx => Hid (wx.ownsRow 0 39 2 v (d + P.length + (la - a)) (xs ++ flat P ++ flat (ea.drop a))) ∧ Hid (Onto w wx v0 v))
        case first =>
          by_cases ha : a < la
          · obtain ⟨ga, hga⟩ : ∃ g, aa = some ⟨g, 0, none⟩ := by
              rcases HFA.out with ⟨_, h⟩ | h
              · omega
              · exact h
            subst hga
            have HNEWS := Hid.mk (HEA.out.news a)
            have hne : ¬ a = ca := by omega
            have hlen : (flat (ea.drop a)).length = (la - a) * 2 := by rw [flat_length, List.length_drop, HZA.out]
            have HLEN := Hid.mk hlen
            have HONE := Hid.mk (flat_oneCell (ea.drop a))
            clear hlen
            generalize flat (ea.drop a) = fa at *
            go_wp2_with (at_builtin; refine wpList_append_own_at wc rfl _ _ 34 rfl 0 39 i0 (.agg #[.int .i64 0, .int .u64 0]) 2 16 Try.underlying34 HI.out HZ0.out HZ1.out HZ2.out rfl (by omega) _ (d + P.length) _ rfl HPO.out ⟨ga, a * 2, none⟩ (la - a) (ca - a) fa rfl HLEN.out HNEWS.out HONE.out (by unfold maxLen; omega) (by omega) (Nat.zero_le _) ?_)
            intro v1 w1 hown1 hgrow1 hnn1 hat1
            have HO1 := Hid.mk hown1
            have HON1 := Hid.mk (HON.out.step hgrow1 (hat1.imp id fun e => ⟨_, e, Nat.le_refl _⟩))
            clear hown1 hgrow1 hnn1 hat1
            go_wp2
            go_meet
            exact ⟨by rw [List.append_assoc]; exact HO1.out, HON1⟩
          · obtain rfl : la = a := by omega
            have HE : Hid (wc.ownsRow 0 39 2 u0 (d + P.length + (la - la)) (xs ++ flat P ++ flat (ea.drop la))) := by
              show World.ownsRow _ _ _ _ _ _ _
              rw [List.drop_eq_nil_of_le (by rw [HZA.out]; exact Nat.le_refl _), Nat.sub_self]
              show World.ownsRow _ _ _ _ _ (d + P.length) (xs ++ flat P ++ [])
              rw [List.append_nil]
              exact HPO.out
            rcases HFA.out with ⟨rfl, rfl⟩ | ⟨ga, rfl⟩
            · obtain rfl : la = 0 := by omega
              go_wp2_with (at_builtin; refine wpList_append_none wc rfl _ _ 34 rfl 0 39 i0 2 Try.underlying34 HI.out HZ1.out _ (d + P.length) _ rfl HPO.out _ _ rfl ?_)
              go_wp2
              go_meet
              exact ⟨HE, HON⟩
            · by_cases hne : la = ca
              · subst hne
                go_wp2_with (at_builtin; refine wpList_append_none wc rfl _ _ 34 rfl 0 39 i0 2 Try.underlying34 HI.out HZ1.out _ (d + P.length) _ rfl HPO.out _ _ rfl ?_)
                go_wp2
                go_meet
                exact ⟨HE, HON⟩
              · go_wp2_with (at_builtin; refine wpList_append_none wc rfl _ _ 34 rfl 0 39 i0 2 Try.underlying34 HI.out HZ1.out _ (d + P.length) _ rfl HPO.out _ _ rfl ?_)
                go_wp2
                go_meet
                exact ⟨HE, HON⟩
        case rest =>
          clear HPO HON HEA
          obtain ⟨HPO, HON⟩ := hcut
          have HEB := Hid.mk (HB.out.grown HON.out.1 HDB.out)
          have HEND : Hid (P ++ ea.drop a ++ eb.drop b = mrg ea eb) := by
            show _ = _
            rw [HP.out, List.append_assoc]
            rcases HOR.out with h | h
            · rw [List.drop_eq_nil_of_le (by rw [HZA.out, h]; exact Nat.le_refl _), mrg_nil_left]; rfl
            · rw [(show eb.drop b = [] from List.drop_eq_nil_of_le (by rw [HZB.out, h]; exact Nat.le_refl _)), mrg_nil_right, List.append_nil]
          have fin : ∀ (v' : Value) (w' : World), Hid (w'.ownsRow 0 39 2 v' (d + P.length + (la - a) + (lb - b)) (xs ++ flat P ++ flat (ea.drop a) ++ flat (eb.drop b))) → Hid (Onto w w' v0 v') → ∃ v'', Ending.returned v' = .returned v'' ∧ w'.ownsRow 0 39 2 v'' (d + (mrg ea eb).length) (xs ++ flat (mrg ea eb)) ∧ Onto w w' v0 v'' := by
            intro v' w' h1 h2
            refine ⟨v', rfl, ?_, h2⟩
            rw [← HEND.out, flat_append, flat_append, ← List.append_assoc, ← List.append_assoc]
            have e : d + (P ++ ea.drop a ++ eb.drop b).length = d + P.length + (la - a) + (lb - b) := by
              rw [List.length_append, List.length_append, List.length_drop, List.length_drop, HZA.out, HZB.out]; omega
            rw [e]
            exact h1
          have FIN := Hid.mk fin
          clear fin
          by_cases hb : b < lb
          · obtain ⟨gb, hgb⟩ : ∃ g, bb = some ⟨g, 0, none⟩ := by
              rcases HFB.out with ⟨_, h⟩ | h
              · omega
              · exact h
            subst hgb
            have HNEWS := Hid.mk (HEB.out.news b)
            have hne : ¬ b = cb := by omega
            have hlen : (flat (eb.drop b)).length = (lb - b) * 2 := by rw [flat_length, List.length_drop, HZB.out]
            have HLEN := Hid.mk hlen
            have HONE := Hid.mk (flat_oneCell (eb.drop b))
            clear hlen
            generalize flat (eb.drop b) = fb at *
            go_wp2_with (at_builtin; refine wpList_append_own_at wc rfl _ _ 34 rfl 0 39 i0 (.agg #[.int .i64 0, .int .u64 0]) 2 16 Try.underlying34 HI.out HZ0.out HZ1.out HZ2.out rfl (by omega) _ (d + P.length + (la - a)) _ rfl HPO.out ⟨gb, b * 2, none⟩ (lb - b) (cb - b) fb rfl HLEN.out HNEWS.out HONE.out (by unfold maxLen; omega) (by omega) (Nat.zero_le _) ?_)
            intro v1 w1 hown1 hgrow1 hnn1 hat1
            have HO1 := Hid.mk hown1
            have HON1 := Hid.mk (HON.out.step hgrow1 (hat1.imp id fun e => ⟨_, e, Nat.le_refl _⟩))
            clear hown1 hgrow1 hnn1 hat1
            go_wp2
            go_ret
            exact FIN.out v1 w1 (by simpa only [Hid, List.append_assoc] using HO1.out) HON1
          · obtain rfl : lb = b := by omega
            have HE : Hid (wc.ownsRow 0 39 2 u0 (d + P.length + (la - a) + (lb - lb)) (xs ++ flat P ++ flat (ea.drop a) ++ flat (eb.drop lb))) := by
              show World.ownsRow _ _ _ _ _ _ _
              rw [(show eb.drop lb = [] from List.drop_eq_nil_of_le (by rw [HZB.out]; exact Nat.le_refl _)), Nat.sub_self]
              show World.ownsRow _ _ _ _ _ (d + P.length + (la - a)) (xs ++ flat P ++ flat (ea.drop a) ++ [])
              rw [List.append_nil]
              exact HPO.out
            rcases HFB.out with ⟨rfl, rfl⟩ | ⟨gb, rfl⟩
            · obtain rfl : lb = 0 := by omega
              go_wp2_with (at_builtin; refine wpList_append_none wc rfl _ _ 34 rfl 0 39 i0 2 Try.underlying34 HI.out HZ1.out _ (d + P.length + (la - a)) _ rfl HPO.out _ _ rfl ?_)
              go_wp2
              go_ret
              exact FIN.out _ _ HE HON
            · by_cases hne : lb = cb
              · subst hne
                go_wp2_with (at_builtin; refine wpList_append_none wc rfl _ _ 34 rfl 0 39 i0 2 Try.underlying34 HI.out HZ1.out _ (d + P.length + (la - a)) _ rfl HPO.out _ _ rfl ?_)
                go_wp2
                go_ret
                exact FIN.out _ _ HE HON
              · go_wp2_with (at_builtin; refine wpList_append_none wc rfl _ _ 34 rfl 0 39 i0 2 Try.underlying34 HI.out HZ1.out _ (d + P.length + (la - a)) _ rfl HPO.out _ _ rfl ?_)
                go_wp2
                go_ret
                exact FIN.out _ _ HE HON
end Go.Proofs.Qxb6606351a
