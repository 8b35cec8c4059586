/-
  The walk of frb1AppendPrefix.
-/
import Derived.Test.Qxb6606225aDoorCall
import Derived.Deep.AppendLies
namespace Go.Proofs.Qxb6606225aDoor
open Go.ChangeShapes Go.WideShapes Go.ChangeAt Go.RowKit
set_option linter.unusedVariables false
set_option linter.unusedSimpArgs false

theorem own_base {w : World} {base : Nat} {e : TypeId} {size : Nat} {v : Value} {n : Nat} {xs : List Value} (h : w.ownsRow base e size v n xs) (k : Nat) (hk : v.ownBlock = some k) : base ≤ k := by
  rcases h.2 with ⟨rfl, _⟩ | ⟨g, cap, cur, rfl, hb, _⟩
  · cases hk
  · obtain rfl := Option.some.inj hk
    exact hb

theorem below_app {base : Nat} {a w w' : World} {o : Obj} {v : Value} {m : Nat} {xs : List Value} (h : Below base a w) (hb : base ≤ w.heap.size) (hg : (w.alloc o).grownBy w' v.ownBlock) (ho : w.ownsRow base 5 1 v m xs) : Below base a w' :=
  (h.alloc hb o).grown hg (by simp; omega) (own_base ho)

set_option maxRecDepth 100000 in
set_option maxHeartbeats 2000000 in
theorem apfx_any (v : Value) (m n base : Nat) (xs : List Value) (w : World) (hown : w.ownsRow base 5 1 v m xs) (hm : m ≤ 100000000) (hn : n ≤ 1048576) (hbase : base ≤ w.heap.size) :
    Calls Tryd.prog 14 #[v, .int .u64 n] w fun e w' => ∃ g c, e = .returned (.slice (some ⟨g, 0, none⟩) (m + 4) c) ∧
      w'.ownsRow base 5 1 (.slice (some ⟨g, 0, none⟩) (m + 4) c) (m + 4) (xs ++ [.int .u8 ((n : Int) % 256), .int .u8 ((n : Int) / 256 % 256), .int .u8 ((n : Int) / 65536), .int .u8 ((n : Int) / 16777216)]) ∧ Below base w w' := by
  obtain ⟨i0, hi, hz0, hz1, hz2⟩ : ∃ i, Tryd.prog.info? 5 = some i ∧ i.zero = some (.int .u8 0) ∧ i.size = 1 ∧ i.bytes = 1 := by
    have := Tryd.info5
    obtain ⟨i, hi, hzz⟩ := Option.map_eq_some_iff.1 this
    simp only [Prod.mk.injEq] at hzz
    exact ⟨i, hi, hzz.1, hzz.2.1, hzz.2.2⟩
  have HI := Hid.mk hi
  have HZ0 := Hid.mk hz0
  have HZ1 := Hid.mk hz1
  have HZ2 := Hid.mk hz2
  have HO := Hid.mk hown
  clear hi hz0 hz1 hz2 hown
  go_enter Tryd.func14, Tryd.ntmps14
  go_wp2_with (at_builtin; refine wpList_append_lies _ rfl _ _ 22 rfl base 5 i0 (.int .u8 0) 1 1 Tryd.underlying22 HI.out HZ0.out HZ1.out HZ2.out rfl (by omega) v (m) (xs) rfl (HO.out.alloc _) ⟨w.heap.size, 0, none⟩ 1 1 _ rfl (by rfl) (World.news_of_block (heap_alloc_new w _)) (by intro u hu; simp at hu; subst hu; rfl) (by omega) (by unfold maxLen; omega) (by omega) (by simp; omega) (w.heap.size + 1) (by simp) ?_)
  intro g1 c1 w1 hown1 hgrow1 hat1 hlt1
  have HO1 := Hid.mk hown1
  have HB1 := Hid.mk (below_app (Below.refl base w) (by omega) hgrow1 HO.out)
  have hsz1 : base ≤ w1.heap.size := by have := HB1.out.size; omega
  clear hown1 hgrow1 hat1 hlt1
  go_wp2_with (at_builtin; refine wpList_append_lies _ rfl _ _ 22 rfl base 5 i0 (.int .u8 0) 1 1 Tryd.underlying22 HI.out HZ0.out HZ1.out HZ2.out rfl (by omega) _ (m + 1) (_) rfl (HO1.out.alloc _) ⟨w1.heap.size, 0, none⟩ 1 1 _ rfl (by rfl) (World.news_of_block (heap_alloc_new w1 _)) (by intro u hu; simp at hu; subst hu; rfl) (by omega) (by unfold maxLen; omega) (by omega) (by simp; omega) (w1.heap.size + 1) (by simp) ?_)
  intro g2 c2 w2 hown2 hgrow2 hat2 hlt2
  have HO2 := Hid.mk hown2
  have HB2 := Hid.mk (below_app HB1.out (by omega) hgrow2 HO1.out)
  have hsz2 : base ≤ w2.heap.size := by have := HB2.out.size; omega
  clear hown2 hgrow2 hat2 hlt2
  go_wp2_with (at_builtin; refine wpList_append_lies _ rfl _ _ 22 rfl base 5 i0 (.int .u8 0) 1 1 Tryd.underlying22 HI.out HZ0.out HZ1.out HZ2.out rfl (by omega) _ (m + 1 + 1) (_) rfl (HO2.out.alloc _) ⟨w2.heap.size, 0, none⟩ 1 1 _ rfl (by rfl) (World.news_of_block (heap_alloc_new w2 _)) (by intro u hu; simp at hu; subst hu; rfl) (by omega) (by unfold maxLen; omega) (by omega) (by simp; omega) (w2.heap.size + 1) (by simp) ?_)
  intro g3 c3 w3 hown3 hgrow3 hat3 hlt3
  have HO3 := Hid.mk hown3
  have HB3 := Hid.mk (below_app HB2.out (by omega) hgrow3 HO2.out)
  have hsz3 : base ≤ w3.heap.size := by have := HB3.out.size; omega
  clear hown3 hgrow3 hat3 hlt3
  go_wp2_with (at_builtin; refine wpList_append_lies _ rfl _ _ 22 rfl base 5 i0 (.int .u8 0) 1 1 Tryd.underlying22 HI.out HZ0.out HZ1.out HZ2.out rfl (by omega) _ (m + 1 + 1 + 1) (_) rfl (HO3.out.alloc _) ⟨w3.heap.size, 0, none⟩ 1 1 _ rfl (by rfl) (World.news_of_block (heap_alloc_new w3 _)) (by intro u hu; simp at hu; subst hu; rfl) (by omega) (by unfold maxLen; omega) (by omega) (by simp; omega) (w3.heap.size + 1) (by simp) ?_)
  intro g4 c4 w4 hown4 hgrow4 hat4 hlt4
  have HO4 := Hid.mk hown4
  have HB4 := Hid.mk (below_app HB3.out (by omega) hgrow4 HO3.out)
  have hsz4 : base ≤ w4.heap.size := by have := HB4.out.size; omega
  clear hown4 hgrow4 hat4 hlt4
  go_wp2
  go_ret
  refine ⟨g4, c4, rfl, ?_, HB4.out⟩
  exact HO4.out
end Go.Proofs.Qxb6606225aDoor
