/-
  The walk of (*bytes.Reader).Read.
-/
import Derived.Test.Qxb6606225aDoorState
namespace Go.Proofs.Qxb6606225aDoor
open Go.ChangeShapes Go.WideShapes Go.ChangeAt Go.RowKit
set_option linter.unusedVariables false
set_option linter.unusedSimpArgs false

theorem method_read (a : Addr) (w : World) : (method 201 42 (.pointer (some a)) "Read").run Tryd.prog w = .ok (48, .pointer (some a)) w := by kernel_rfl
theorem method_bread (a : Addr) (w : World) : (method 201 52 (.pointer (some a)) "Read").run Tryd.prog w = .ok (49, .pointer (some a)) w := by kernel_rfl

set_option maxHeartbeats 400000 in
theorem read_eof (K : Cfg) (ok : K.Ok) (len cap : Nat) (da : Option Addr) (w : World) (hs : Src K w K.N) :
    Calls Tryd.prog 48 #[.pointer (some ⟨K.gb, 0, none⟩), .slice da len cap] w fun e w' => e = .returned (.tuple #[.int .i64 0, .iface 75 (.pointer (some K.ea))]) ∧ Src K w' K.N ∧ Kp (fun _ => False) w w' := by
  have HS := Hid.mk hs
  have OK := Hid.mk ok
  have hN := ok.small
  have c0 := hs.c0
  have c1 := hs.c1
  have hE := hs.eof
  clear hs ok
  go_enter Tryd.func48, Tryd.ntmps48
  go_wp2
  go_quiet (fail)
  go_wp2
  go_quiet (fail)
  go_wp2
  go_ret2
  have fin : ∀ w', Kp (fun _ => False) w w' → Src K w' K.N ∧ Kp (fun _ => False) w w' := fun w' hk => ⟨HS.out.kept OK.out hk (fun h => h) (fun h => h) (fun _ _ _ h => h), hk⟩
  exact ⟨rfl, fin _ (((Kp.refl _ _).drewN _).drewN _)⟩

set_option maxHeartbeats 1000000 in
theorem read_some (K : Cfg) (ok : K.Ok) (i gd off len dcap : Nat) (cur : List Value) (w : World) (hs : Src K w i) (hi : i < K.N) (hlen : 0 < len) (hlm : len ≤ 1000000000)
    (hd : w.heap[gd]? = some (.cells cur.toArray 5 (0, 0))) (hfit : off + len ≤ cur.length) (h1 : gd ≠ K.gb) (h3 : ∀ b o, K.sa = some ⟨b, o, none⟩ → b ≠ gd) (h0 : gd ≠ 0) :
    Calls Tryd.prog 48 #[.pointer (some ⟨K.gb, 0, none⟩), .slice (some ⟨gd, off, none⟩) len dcap] w fun e w' => ∃ n : Nat, n = min (K.N - i) len ∧ e = .returned (.tuple #[.int .i64 n, .nilIface]) ∧
      w'.heap[gd]? = some (.cells (splice cur off (K.cut i n)).toArray 5 (0, 0)) ∧ Src K w' (i + n) ∧ Kp (fun k => k = K.gb ∨ k = gd) w w' := by
  have HS := Hid.mk hs
  have OK := Hid.mk ok
  have HD := Hid.mk hd
  have H3 := Hid.mk h3
  have hN := ok.small
  have hcap := ok.cap
  have hb8 := ok.b0
  obtain ⟨sb, so, esa, hl⟩ := hs.lies.at (by rw [ok.len]; omega)
  have h2 : sb ≠ K.gb := (ok.src _ _ esa).1
  have h4 : sb ≠ gd := h3 _ _ esa
  have c0 := hs.c0
  rw [esa] at c0
  have c1 := hs.c1
  obtain ⟨x, c2⟩ := hs.c2
  have fz1 := hs.fz 1
  have fz2 := hs.fz 2
  have hne : ¬ K.sc = i := by omega
  have hsl0 : (0 : Int) ≤ (i : Int) := by omega
  have hsl1 : (i : Int) ≤ (K.N : Int) := by omega
  have hsl2 : (K.N : Int) ≤ (K.sc : Int) := by omega
  have HL := Hid.mk hl
  have ESA := Hid.mk esa
  have h1' : K.gb ≠ gd := Ne.symm h1
  clear hs ok hd h3 hl esa
  obtain ⟨n, hn⟩ : ∃ n, n = min (K.N - i) len := ⟨_, rfl⟩
  have hn1 : n ≤ len := by omega
  have hn2 : 0 < n := by omega
  have hn3 : i + n ≤ K.N := by omega
  have HN := Hid.mk hn
  clear hn
  obtain ⟨cs, hcs⟩ : ∃ cs, cs = K.cut i n := ⟨_, rfl⟩
  have HCS := Hid.mk hcs
  have HCL : Hid (cs.length = n) := by show _ = _; rw [hcs]; exact K.length_cut OK.out i n hn3
  have K1 : Hid (cs.length = Nat.min (K.N - i) len) := by show _ = _; rw [HCL.out]; exact HN.out
  have K3 : Hid (off + cs.length ≤ cur.length) := by show _ ≤ _; rw [HCL.out]; omega
  have K4 : Hid (∀ v ∈ cs, v.oneCell' = true) := by rw [hcs]; exact K.cut_one i n
  clear hcs
  go_enter Tryd.func48, Tryd.ntmps48
  go_wp2
  go_quiet (fail)
  go_wp2
  generalize hW : (w.drewN nq).setCell ⟨K.gb, 2, none⟩ (.int .i64 (-1)) = w1
  have d0 : w1.cell? ⟨K.gb, 0, none⟩ = some (.slice (some ⟨sb, so, none⟩) K.N K.sc) := by rw [← hW]; simp [go_sem, c0]
  have d1 : w1.cell? ⟨K.gb, 1, none⟩ = some (.int .i64 i) := by rw [← hW]; simp [go_sem, c1]
  have d2 : w1.cell? ⟨K.gb, 2, none⟩ = some (.int .i64 (-1)) := by rw [← hW]; simp [go_sem, c2]
  have f1 : ∀ j, w1.frozen? ⟨K.gb, j, none⟩ = false := fun j => by rw [← hW]; simpa [go_sem] using HS.out.fz j
  have k1 : Hid (Kp (fun k => k = K.gb ∨ k = gd) w w1) := by rw [← hW]; exact ((Kp.refl _ _).drewN _).setCell (Or.inl rfl) _
  have HD1 : Hid (w1.heap[gd]? = some (.cells cur.toArray 5 (0, 0))) := by show _ = _; rw [← hW, Below.heap_setCell _ _ _ _ h1]; exact HD.out
  have K2 : Hid (∀ j v, cs[j]? = some v → w1.cell? ((⟨sb, so + i, none⟩ : Addr).add j) = some v) := by
    intro j v hj
    have hjn : j < n := by
      have h5 := (List.getElem?_eq_some_iff.1 hj).1
      rw [HCL.out] at h5
      exact h5
    rw [HCS.out, K.cut_get OK.out i n j hn3 hjn] at hj
    rw [Addr.add_lit, Nat.add_assoc, k1.out.cell (v := .int .u8 (K.S.getD (i + j) 0)) (by intro h; rcases h with h | h; exact h2 h; exact h4 h) (HL.out (i + j) (by rw [OK.out.len]; omega))]
    exact hj
  clear hW c0 c1 c2
  go_region_held3 (fun w' => w'.cell? ⟨K.gb, 0, none⟩ = some (.slice (some ⟨sb, so, none⟩) K.N K.sc) ∧ w'.cell? ⟨K.gb, 1, none⟩ = some (.int .i64 i)) (first | go_keep | (exact ⟨((‹Hid (Poke gd w1.drew _)›).out.cell h1').trans d0, ((‹Hid (Poke gd w1.drew _)›).out.cell h1').trans d1⟩))
    ((refine step_copy rfl (.tmp 20) (.tmp 29) 22 22 rfl 5 Tryd.underlying22 Tryd.size5 (some ⟨gd, off, none⟩) (some ⟨sb, so + i, none⟩) len dcap (K.N - i) (K.sc - i) (by simp [Act.eval, Act.put]) (by simp [Act.eval, Act.put]) gd off cur 5 HD1.out cs K1.out (fun _ => ⟨rfl, _, rfl, K2.out⟩) K3.out K4.out ?_; intro w2 hg2 hp2))
  rw [HCL.out]
  have p2 : Poke gd w1 w2 := ((‹Hid (Poke gd w1.drew w2)›).out).of_drew
  have g2 : w2.heap[gd]? = some (.cells (splice cur off cs).toArray 5 (0, 0)) := (‹Hid (w2.heap[gd]? = _)›).out
  have e1 : w2.cell? ⟨K.gb, 1, none⟩ = some (.int .i64 i) := (p2.cell h1').trans d1
  have f2 : w2.frozen? ⟨K.gb, 1, none⟩ = false := (p2.frozen h1').trans (f1 1)
  have P2 := Hid.mk p2
  have G2 := Hid.mk g2
  have D0 := Hid.mk d0
  clear p2 g2 d0 d1 HD1 K2
  go_wp2
  go_ret2
  have kf : Kp (fun k => k = K.gb ∨ k = gd) w (w2.setCell ⟨K.gb, 1, none⟩ (.int .i64 ((i : Int) + (n : Int)))) := (k1.out.poke (Or.inr rfl) P2.out).setCell (Or.inl rfl) _
  have hnot : ∀ b o, K.sa = some ⟨b, o, none⟩ → ¬ (b = K.gb ∨ b = gd) := fun b o e h => by
    rcases h with h | h
    · exact (OK.out.src b o e).1 h
    · exact H3.out b o e h
  refine ⟨n, HN.out, rfl, ?_, ⟨kf.lies HS.out.lies hnot, ?_, ?_, ⟨-1, ?_⟩, ?_, hn3, kf.cell (by simp; omega) HS.out.eof⟩, kf⟩
  · rw [Below.heap_setCell _ _ _ _ h1, G2.out, HCS.out]
  · simp [go_sem, P2.out.cell (a := ⟨K.gb, 0, none⟩) h1', D0.out, ESA.out]
  · simp [go_sem, e1]
  · simp [go_sem, P2.out.cell (a := ⟨K.gb, 2, none⟩) h1', d2]
  · intro j
    simp [go_sem, P2.out.frozen (a := ⟨K.gb, j, none⟩) h1', f1 j]
end Go.Proofs.Qxb6606225aDoor
