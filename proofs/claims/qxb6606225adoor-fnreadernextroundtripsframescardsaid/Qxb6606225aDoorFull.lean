/-
  The walks of io.ReadAtLeast and io.ReadFull over a bufio.Reader.
-/
import Derived.Test.Qxb6606225aDoorBread
namespace Go.Proofs.Qxb6606225aDoor
open Go.ChangeShapes Go.WideShapes Go.ChangeAt Go.RowKit
set_option linter.unusedVariables false
set_option linter.unusedSimpArgs false

theorem nil_ahead (a : Addr) (w : World) : (nilAhead 201 52 (.pointer (some a)) "Read").run Tryd.prog w = .ok (some false) w := by kernel_rfl

theorem bread_eof (K : Cfg) (ok : K.Ok) (r wd i p gd off len dcap : Nat) (cur : List Value) (w : World) (hs : Br K w r wd i p .nilIface) (hlen : 0 < len) (hlm : len ≤ 1000000000)
    (hd : w.heap[gd]? = some (.cells cur.toArray 5 (0, 0))) (hfit : off + len ≤ cur.length) (hX : ¬ K.X gd) (h3 : ∀ b o, K.sa = some ⟨b, o, none⟩ → b ≠ gd) (h8 : 8 ≤ gd) (hp : p = K.N) :
    Calls Tryd.prog 49 #[.pointer (some ⟨K.gR, 0, none⟩), .slice (some ⟨gd, off, none⟩) len dcap] w fun e w' => e = .returned (.tuple #[.int .i64 0, .iface 75 (.pointer (some K.ea))]) ∧
      Kp (fun k => K.X k ∨ k = gd) w w' ∧ w'.heap[gd]? = some (.cells cur.toArray 5 (0, 0)) ∧ ∃ r wd i, Br K w' r wd i p .nilIface := by
  refine (bread_any K ok r wd i p gd off len dcap cur w hs hlen hlm hd hfit hX h3 h8).mono ?_
  rintro e w' ⟨hk, h | ⟨n, hn, _, hn3, _⟩⟩
  · exact ⟨h.2.1, hk, h.2.2⟩
  · omega

theorem bread_more (K : Cfg) (ok : K.Ok) (r wd i p gd off len dcap : Nat) (cur : List Value) (w : World) (hs : Br K w r wd i p .nilIface) (hlen : 0 < len) (hlm : len ≤ 1000000000)
    (hd : w.heap[gd]? = some (.cells cur.toArray 5 (0, 0))) (hfit : off + len ≤ cur.length) (hX : ¬ K.X gd) (h3 : ∀ b o, K.sa = some ⟨b, o, none⟩ → b ≠ gd) (h8 : 8 ≤ gd) (hp : p < K.N) :
    Calls Tryd.prog 49 #[.pointer (some ⟨K.gR, 0, none⟩), .slice (some ⟨gd, off, none⟩) len dcap] w fun e w' => ∃ n : Nat, e = .returned (.tuple #[.int .i64 n, .nilIface]) ∧ 0 < n ∧ n ≤ len ∧ p + n ≤ K.N ∧
      Kp (fun k => K.X k ∨ k = gd) w w' ∧ w'.heap[gd]? = some (.cells (splice cur off (K.cut p n)).toArray 5 (0, 0)) ∧ ∃ r wd i, Br K w' r wd i (p + n) .nilIface := by
  refine (bread_any K ok r wd i p gd off len dcap cur w hs hlen hlm hd hfit hX h3 h8).mono ?_
  rintro e w' ⟨hk, h | ⟨n, hn, hn1, hn3, he, hrow, hb⟩⟩
  · omega
  · exact ⟨n, he, hn, hn1, hn3, hk, hrow, hb⟩

/-- Block gd: 'len' cells, the first n of which are the source's from place p on. -/
def Got (K : Cfg) (w : World) (gd len p n : Nat) : Prop := ∃ cur : List Value, w.heap[gd]? = some (.cells cur.toArray 5 (0, 0)) ∧ cur.length = len ∧ ∀ j, j < n → cur[j]? = some (.int .u8 (K.S.getD (p + j) 0))

/-- What ReadFull of 'len' bytes at place p answers. -/
def FullDone (K : Cfg) (p gd len : Nat) (w w' : World) (e : Ending) : Prop :=
  Kp (fun k => K.X k ∨ k = gd) w w' ∧
    ((p + len ≤ K.N ∧ e = .returned (.tuple #[.int .i64 len, .nilIface]) ∧ Got K w' gd len p len ∧ ∃ r wd i, Br K w' r wd i (p + len) .nilIface) ∨
     (K.N < p + len ∧ ∃ (n : Nat) (a : Addr), (a = K.ea ∨ a = K.ua) ∧ e = .returned (.tuple #[.int .i64 n, .iface 75 (.pointer (some a))])))

set_option maxRecDepth 100000 in
set_option maxHeartbeats 2000000 in
theorem atLeast_any (K : Cfg) (ok : K.Ok) (r wd i p gd len : Nat) (w : World) (hs : Br K w r wd i p .nilIface) (hlen : 0 < len) (hlm : len ≤ 1000000000) (hg : Got K w gd len p 0)
    (hX : ¬ K.X gd) (h3 : ∀ b o, K.sa = some ⟨b, o, none⟩ → b ≠ gd) (h8 : 8 ≤ gd) :
    Calls Tryd.prog 29 #[.iface 52 (.pointer (some ⟨K.gR, 0, none⟩)), .slice (some ⟨gd, 0, none⟩) len len, .int .i64 len] w fun e w' => FullDone K p gd len w w' e := by
  have OK := Hid.mk ok
  have HS := Hid.mk hs
  have HG := Hid.mk hg
  have HX := Hid.mk hX
  have H3 := Hid.mk h3
  have hpN : p ≤ K.N := by have := hs.pos; have := hs.src.le; omega
  have hE := Hid.mk hs.src.eof
  have hU := Hid.mk hs.unx
  clear hs ok hg hX h3
  go_enter Tryd.func29, Tryd.ntmps29
  go_wp2
  go_loopg [6, 7] (len + 1) (fun k n e wr => ∃ m : Nat, m ≤ len ∧ p + m ≤ K.N ∧ n = .int .i64 m ∧ Hid (Kp (fun k => K.X k ∨ k = gd) w wr) ∧ Hid (Got K wr gd len p m) ∧ (∃ r wd i, Hid (Br K wr r wd i (p + m) .nilIface)) ∧
    ((e = .nilIface ∧ len - m + 1 ≤ k) ∨ (e = .iface 75 (.pointer (some K.ea)) ∧ p + m = K.N ∧ m < len)))
  case atStart => exact ⟨0, Nat.zero_le _, by omega, rfl, Kp.refl _ _, HG, ⟨r, wd, i, HS⟩, Or.inl ⟨rfl, by omega⟩⟩
  case round =>
    obtain ⟨m, hm, hmN, rfl, hk, hgot, ⟨r, wd, i, hbr⟩, hcase⟩ := hrel
    have hE := hbr.out.src.eof
    have hU := hbr.out.unx
    rcases hcase with ⟨rfl, hgk⟩ | ⟨rfl, hpm, hml⟩
    · by_cases hml : m < len
      · have hna := nil_ahead ⟨K.gR, 0, none⟩
        have hme := method_bread ⟨K.gR, 0, none⟩
        have hne : ¬ len = m := by omega
        have hsl0 : (0 : Int) ≤ (m : Int) := by omega
        have hsl1 : (m : Int) ≤ (len : Int) := by omega
        go_wp2
        obtain ⟨cur, hrow, hcl, hcur⟩ := hgot.out
        have HROW : Hid (wr.drew.heap[gd]? = some (.cells cur.toArray 5 (0, 0))) := hrow
        have HCL := Hid.mk hcl
        have HCUR := Hid.mk hcur
        have HBD : Hid (Br K wr.drew r wd i (p + m) .nilIface) := hbr.out.drew OK.out
        clear hrow hcl hcur
        by_cases hpm : p + m < K.N
        · go_region_held3 (fun _ => True) (trivial)
            ((go_at_call 49; refine (bread_more K OK.out r wd i (p + m) gd m (len - m) (len - m) cur _ HBD.out (by omega) (by omega) HROW.out (by rw [HCL.out]; omega) HX.out H3.out h8 hpm).mono ?_; rintro e w2 ⟨n, rfl, hn0, hn1, hn3, hk2, hrow2, r2, wd2, i2, hb2⟩; have HK2 := Hid.mk hk2; have HROW2 := Hid.mk hrow2; have HB2 := Hid.mk hb2; clear hk2 hrow2 hb2))
          go_wp2
          go_roundg (len - (m + n) + 1)
          case measure => omega
          case rel =>
            refine ⟨m + n, by omega, by omega, by go_num, hk.out.trans HK2.out.of_drew, ?_, ⟨r2, wd2, i2, by rw [← Nat.add_assoc]; exact HB2⟩, Or.inl ⟨rfl, Nat.le_refl _⟩⟩
            have hl := K.length_cut OK.out (p + m) n (by omega)
            refine ⟨_, HROW2.out, by rw [length_splice _ _ _ (by rw [hl, HCL.out]; omega)]; exact HCL.out, fun j hj => ?_⟩
            have hcl := HCL.out
            simp only [splice]
            by_cases hjm : j < m
            · rw [List.getElem?_append_left (by rw [List.length_take]; omega), List.getElem?_take_of_lt hjm, HCUR.out j hjm]
            · rw [List.getElem?_append_right (by rw [List.length_take]; omega), List.length_take, Nat.min_eq_left (by omega), List.getElem?_append_left (by rw [hl]; omega), K.cut_get OK.out (p + m) n (j - m) (by omega) (by omega), show p + m + (j - m) = p + j from by omega]
        · go_region_held3 (fun _ => True) (trivial)
            ((go_at_call 49; refine (bread_eof K OK.out r wd i (p + m) gd m (len - m) (len - m) cur _ HBD.out (by omega) (by omega) HROW.out (by rw [HCL.out]; omega) HX.out H3.out h8 (by omega)).mono ?_; rintro e w2 ⟨rfl, hk2, hrow2, r2, wd2, i2, hb2⟩; have HK2 := Hid.mk hk2; have HROW2 := Hid.mk hrow2; have HB2 := Hid.mk hb2; clear hk2 hrow2 hb2))
          go_wp2
          go_roundg 0
          case measure => omega
          case rel => exact ⟨m, by omega, by omega, by go_num, hk.out.trans HK2.out.of_drew, ⟨cur, HROW2.out, HCL.out, HCUR.out⟩, ⟨r2, wd2, i2, HB2⟩, Or.inr ⟨rfl, by omega, hml⟩⟩
      · obtain rfl : len = m := by omega
        go_wp2
        go_ret2
        exact ⟨hk.out, Or.inl ⟨by omega, rfl, hgot.out, r, wd, i, hbr.out⟩⟩
    · have hq := eql_same K.ea
      have hl1 : (m : Int) < (len : Int) := by omega
      have HPM := Hid.mk hpm
      clear hpm
      by_cases hm0 : m = 0
      · subst hm0
        go_wp2
        go_ret2
        exact ⟨hk.out, Or.inr ⟨by have := HPM.out; omega, 0, K.ea, Or.inl rfl, rfl⟩⟩
      · have hm1 : (0 : Int) < (m : Int) := by omega
        go_wp2
        go_ret2
        exact ⟨hk.out, Or.inr ⟨by have := HPM.out; omega, m, K.ua, Or.inr rfl, rfl⟩⟩

theorem full_any (K : Cfg) (ok : K.Ok) (r wd i p gd len : Nat) (w : World) (hs : Br K w r wd i p .nilIface) (hlen : 0 < len) (hlm : len ≤ 1000000000) (hg : Got K w gd len p 0)
    (hX : ¬ K.X gd) (h3 : ∀ b o, K.sa = some ⟨b, o, none⟩ → b ≠ gd) (h8 : 8 ≤ gd) :
    Calls Tryd.prog 23 #[.iface 52 (.pointer (some ⟨K.gR, 0, none⟩)), .slice (some ⟨gd, 0, none⟩) len len] w fun e w' => FullDone K p gd len w w' e := by
  have H := Hid.mk (atLeast_any K ok r wd i p gd len w hs hlen hlm hg hX h3 h8)
  clear hs ok hg hX h3
  go_enter Tryd.func23, Tryd.ntmps23
  go_wp2_with fail
  refine H.out.mono ?_
  rintro e w' ⟨hk, ⟨h1, rfl, h2⟩ | ⟨h1, n, a, ha, rfl⟩⟩
  · have H2 := Hid.mk h2
    have HK := Hid.mk hk
    clear hk h2
    go_wp2
    go_ret2
    exact ⟨HK.out, Or.inl ⟨h1, rfl, H2.out⟩⟩
  · have HK := Hid.mk hk
    have HA := Hid.mk ha
    clear hk ha
    go_wp2
    go_ret2
    exact ⟨HK.out, Or.inr ⟨h1, n, a, HA.out, rfl⟩⟩
end Go.Proofs.Qxb6606225aDoor
