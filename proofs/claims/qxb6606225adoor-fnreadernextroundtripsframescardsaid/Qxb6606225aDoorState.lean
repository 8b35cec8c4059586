/-
  The state of a reader of bytes: what lies where. Worlds that keep all but some blocks.
-/
import Derived.Test.Qxb6606225aDoorBase
namespace Go.Proofs.Qxb6606225aDoor
open Go.ChangeShapes Go.WideShapes Go.ChangeAt Go.RowKit
set_option linter.unusedVariables false
set_option linter.unusedSimpArgs false

/-- Blocks outside X are as they were; the heap may have grown. -/
structure Kp (X : Nat → Prop) (w w' : World) : Prop where
  os : w'.os = w.os
  tape : w'.tape = w.tape
  output : w'.output = w.output
  size : w.heap.size ≤ w'.heap.size
  block : ∀ k, k < w.heap.size → ¬ X k → w'.heap[k]? = w.heap[k]?

theorem Kp.refl (X : Nat → Prop) (w : World) : Kp X w w := ⟨rfl, rfl, rfl, Nat.le_refl _, fun _ _ _ => rfl⟩
theorem Kp.trans {X : Nat → Prop} {a b c : World} (h : Kp X a b) (k : Kp X b c) : Kp X a c :=
  ⟨k.os.trans h.os, k.tape.trans h.tape, k.output.trans h.output, Nat.le_trans h.size k.size, fun i hi hx => (k.block i (Nat.lt_of_lt_of_le hi h.size) hx).trans (h.block i hi hx)⟩
theorem Kp.mono {X Y : Nat → Prop} {a b : World} (h : Kp X a b) (hxy : ∀ k, k < a.heap.size → X k → Y k) : Kp Y a b :=
  ⟨h.os, h.tape, h.output, h.size, fun i hi hy => h.block i hi (fun hx => hy (hxy i hi hx))⟩
theorem Kp.drewN {X : Nat → Prop} {a b : World} (h : Kp X a b) (n : Nat) : Kp X a (b.drewN n) := ⟨h.os, h.tape, h.output, h.size, h.block⟩
theorem Kp.drew {X : Nat → Prop} {a b : World} (h : Kp X a b) : Kp X a b.drew := ⟨h.os, h.tape, h.output, h.size, h.block⟩
theorem Kp.setCell {X : Nat → Prop} {a b : World} (h : Kp X a b) {p : Addr} (hp : X p.block) (v : Value) : Kp X a (b.setCell p v) :=
  h.trans ⟨rfl, rfl, rfl, by simp [World.setCell], fun k hk hx => Below.heap_setCell _ _ _ _ (fun e => hx (by rw [e]; exact hp))⟩
theorem Kp.alloc {X : Nat → Prop} {a b : World} (h : Kp X a b) (o : Obj) : Kp X a (b.alloc o) :=
  h.trans ⟨rfl, rfl, rfl, by simp, fun k hk hx => Below.heap_alloc _ _ _ hk⟩
theorem Kp.poke {X : Nat → Prop} {a b c : World} {g : Nat} (h : Kp X a b) (hg : X g) (hp : Poke g b c) : Kp X a c :=
  h.trans ⟨hp.os, hp.tape, hp.output, by rw [hp.size]; exact Nat.le_refl _, fun k hk hx => hp.other k (fun e => hx (by rw [e]; exact hg))⟩
theorem Kp.cell {X : Nat → Prop} {w w' : World} (h : Kp X w w') {a : Addr} {v : Value} (ha : ¬ X a.block) (hv : w.cell? a = some v) : w'.cell? a = some v :=
  (World.cell?_of_block (w := w) (h.block _ (World.block_lt_of_cell? w _ hv) ha)).trans hv
theorem Kp.frozen {X : Nat → Prop} {w w' : World} (h : Kp X w w') {a : Addr} (hl : a.block < w.heap.size) (ha : ¬ X a.block) : w'.frozen? a = w.frozen? a := World.frozen?_of_block (w := w) (h.block _ hl ha)
theorem Kp.below {X : Nat → Prop} {w w' : World} (h : Kp X w w') {B : Nat} (hB : B ≤ w.heap.size) (hx : ∀ k, X k → B ≤ k) : Below B w w' :=
  ⟨h.os, h.tape, h.output, h.size, fun k hk => h.block k (by omega) (fun hX => by have := hx k hX; omega)⟩
theorem Kp.lies {X : Nat → Prop} {w w' : World} (h : Kp X w w') {a : Option Addr} {zs : List Int} (hl : Lies w a zs) (hx : ∀ b o, a = some ⟨b, o, none⟩ → ¬ X b) : Lies w' a zs := by
  rcases hl with h0 | ⟨b, o, e, hc⟩
  · exact Or.inl h0
  · exact Or.inr ⟨b, o, e, fun i hi => h.cell (hx b o e) (hc i hi)⟩
theorem Kp.row {X : Nat → Prop} {w w' : World} (h : Kp X w w') {g : Nat} {o : Obj} (hg : w.heap[g]? = some o) (hx : ¬ X g) : w'.heap[g]? = some o :=
  (h.block g (Array.getElem?_eq_some_iff.1 hg).1 hx).trans hg

/-- What does not turn while a reader is read: the source (where it lies, its bytes), the three blocks, what io.EOF and io.ErrUnexpectedEOF hold. -/
structure Cfg where
  sa : Option Addr
  sc : Nat
  S : List Int
  N : Nat
  gb : Nat
  gR : Nat
  gf : Nat
  B : Nat
  ea : Addr
  ua : Addr

/-- What io.EOF holds; what io.ErrUnexpectedEOF holds. -/
def Cfg.E (K : Cfg) : Value := .iface 75 (.pointer (some K.ea))
def Cfg.U (K : Cfg) : Value := .iface 75 (.pointer (some K.ua))

/-- The blocks lie apart; the sizes are small. -/
structure Cfg.Ok (K : Cfg) : Prop where
  len : K.S.length = K.N
  small : K.N ≤ 1000000000
  cap : K.N ≤ K.sc
  bR : K.gb ≠ K.gR
  bf : K.gb ≠ K.gf
  Rf : K.gR ≠ K.gf
  b0 : 8 ≤ K.gb
  R0 : 8 ≤ K.gR
  f0 : 8 ≤ K.gf
  B1 : 4 ≤ K.B
  B2 : K.B ≤ 1000000
  src : ∀ b o, K.sa = some ⟨b, o, none⟩ → b ≠ K.gb ∧ b ≠ K.gR ∧ b ≠ K.gf
  byte : ∀ j, 0 ≤ K.S.getD j 0 ∧ K.S.getD j 0 ≤ 255

/-- The bytes.Reader at place i of its source. -/
structure Src (K : Cfg) (w : World) (i : Nat) : Prop where
  lies : Lies w K.sa K.S
  c0 : w.cell? ⟨K.gb, 0, none⟩ = some (.slice K.sa K.N K.sc)
  c1 : w.cell? ⟨K.gb, 1, none⟩ = some (.int .i64 i)
  c2 : ∃ x, w.cell? ⟨K.gb, 2, none⟩ = some (.int .i64 x)
  fz : ∀ j, w.frozen? ⟨K.gb, j, none⟩ = false
  le : i ≤ K.N
  eof : w.cell? ⟨0, 0, none⟩ = some (.iface 75 (.pointer (some K.ea)))

theorem Src.lt {K : Cfg} {w : World} {i : Nat} (h : Src K w i) : K.gb < w.heap.size := World.block_lt_of_cell? w _ h.c0

theorem Src.kept {K : Cfg} {w w' : World} {i : Nat} {X : Nat → Prop} (h : Src K w i) (ok : K.Ok) (hk : Kp X w w') (h0 : ¬ X 0) (hb : ¬ X K.gb) (hs : ∀ b o, K.sa = some ⟨b, o, none⟩ → ¬ X b) : Src K w' i := by
  obtain ⟨x, hx⟩ := h.c2
  exact ⟨hk.lies h.lies hs, hk.cell hb h.c0, hk.cell hb h.c1, ⟨x, hk.cell hb hx⟩, fun j => (hk.frozen (a := ⟨K.gb, j, none⟩) h.lt hb).trans (h.fz j), h.le, hk.cell h0 h.eof⟩

/-- Places i to i + n of the source, as cells. -/
def Cfg.cut (K : Cfg) (i n : Nat) : List Value := ((K.S.drop i).take n).map (Value.int .u8)
theorem Cfg.length_cut (K : Cfg) (ok : K.Ok) (i n : Nat) (h : i + n ≤ K.N) : (K.cut i n).length = n := by
  unfold Cfg.cut
  rw [List.length_map, List.length_take, List.length_drop, ok.len]
  omega
theorem Cfg.cut_get (K : Cfg) (ok : K.Ok) (i n j : Nat) (h : i + n ≤ K.N) (hj : j < n) : (K.cut i n)[j]? = some (.int .u8 (K.S.getD (i + j) 0)) := by
  have hl := ok.len
  unfold Cfg.cut
  rw [List.getElem?_map, List.getElem?_take_of_lt hj, List.getElem?_drop, List.getElem?_eq_getElem (by omega)]
  simp [List.getD, show i + j < K.S.length by omega]
theorem Cfg.cut_one (K : Cfg) (i n : Nat) : ∀ v ∈ K.cut i n, v.oneCell' = true := ints_oneCell _ _


/-- The blocks that a reader writes. -/
def Cfg.X (K : Cfg) (k : Nat) : Prop := k = K.gb ∨ k = K.gR ∨ k = K.gf

/-- The buffer: what lies between r and wd is the source from place p on. -/
structure Buf (K : Cfg) (w : World) (r wd p : Nat) : Prop where
  ex : ∃ cur : List Value, w.heap[K.gf]? = some (.cells cur.toArray 5 (0, 0)) ∧ cur.length = K.B ∧ ∀ j, r ≤ j → j < wd → cur[j]? = some (.int .u8 (K.S.getD (p + (j - r)) 0))

/-- THE bufio.Reader: r, wd: the ends of what is buffered; i: the source's place; p: the next byte's place; err: the error that waits. -/
structure Br (K : Cfg) (w : World) (r wd i p : Nat) (err : Value) : Prop where
  src : Src K w i
  b0 : w.cell? ⟨K.gR, 0, none⟩ = some (.slice (some ⟨K.gf, 0, none⟩) K.B K.B)
  b1 : w.cell? ⟨K.gR, 1, none⟩ = some (.iface 42 (.pointer (some ⟨K.gb, 0, none⟩)))
  b2 : w.cell? ⟨K.gR, 2, none⟩ = some (.int .i64 r)
  b3 : w.cell? ⟨K.gR, 3, none⟩ = some (.int .i64 wd)
  b4 : w.cell? ⟨K.gR, 4, none⟩ = some err
  b5 : ∃ x, w.cell? ⟨K.gR, 5, none⟩ = some (.int .i64 x)
  b6 : ∃ x, w.cell? ⟨K.gR, 6, none⟩ = some (.int .i64 x)
  fz : ∀ j, w.frozen? ⟨K.gR, j, none⟩ = false
  buf : Buf K w r wd p
  rw : r ≤ wd
  w4 : wd ≤ K.B
  pos : p + (wd - r) = i
  er : err = .nilIface ∨ (err = .iface 75 (.pointer (some K.ea)) ∧ i = K.N)
  unx : w.cell? ⟨1, 0, none⟩ = some (.iface 75 (.pointer (some K.ua)))

theorem Br.lt {K : Cfg} {w : World} {r wd i p : Nat} {err : Value} (h : Br K w r wd i p err) : K.gR < w.heap.size := World.block_lt_of_cell? w _ h.b0
theorem Br.flt {K : Cfg} {w : World} {r wd i p : Nat} {err : Value} (h : Br K w r wd i p err) : K.gf < w.heap.size := by
  obtain ⟨cur, hg, _⟩ := h.buf.ex
  exact (Array.getElem?_eq_some_iff.1 hg).1

/-- What a change of other blocks leaves of a reader. -/
theorem Br.kept {K : Cfg} {w w' : World} {r wd i p : Nat} {err : Value} {X : Nat → Prop} (h : Br K w r wd i p err) (ok : K.Ok) (hk : Kp X w w') (h0 : ¬ X 0) (h1 : ¬ X 1) (hb : ¬ X K.gb) (hR : ¬ X K.gR) (hf : ¬ X K.gf)
    (hs : ∀ b o, K.sa = some ⟨b, o, none⟩ → ¬ X b) : Br K w' r wd i p err := by
  obtain ⟨x5, h5⟩ := h.b5
  obtain ⟨x6, h6⟩ := h.b6
  obtain ⟨cur, hg, hc⟩ := h.buf.ex
  exact ⟨h.src.kept ok hk h0 hb hs, hk.cell hR h.b0, hk.cell hR h.b1, hk.cell hR h.b2, hk.cell hR h.b3, hk.cell hR h.b4, ⟨x5, hk.cell hR h5⟩, ⟨x6, hk.cell hR h6⟩,
    fun j => (hk.frozen (a := ⟨K.gR, j, none⟩) h.lt hR).trans (h.fz j), ⟨cur, hk.row hg hf, hc⟩, h.rw, h.w4, h.pos, h.er, hk.cell h1 h.unx⟩

theorem Br.drewN {K : Cfg} {w : World} {r wd i p : Nat} {err : Value} (h : Br K w r wd i p err) (ok : K.Ok) (n : Nat) : Br K (w.drewN n) r wd i p err :=
  h.kept ok (X := fun _ => False) ((Kp.refl _ _).drewN n) (fun h => h) (fun h => h) (fun h => h) (fun h => h) (fun h => h) (fun _ _ _ h => h)

theorem cur_drop (cur : List Value) (r n : Nat) (h : r + n ≤ cur.length) : ((cur.drop r).take n).length = n := by
  rw [List.length_take, List.length_drop]; omega

theorem Br.drew {K : Cfg} {w : World} {r wd i p : Nat} {err : Value} (h : Br K w r wd i p err) (ok : K.Ok) : Br K w.drew r wd i p err :=
  h.kept ok (X := fun _ => False) ((Kp.refl _ _).drew) (fun h => h) (fun h => h) (fun h => h) (fun h => h) (fun h => h) (fun _ _ _ h => h)

theorem Cfg.Ok.srcR {K : Cfg} (ok : K.Ok) : ∀ b o, K.sa = some ⟨b, o, none⟩ → ¬ b = K.gR := fun b o e => (ok.src b o e).2.1
theorem Cfg.Ok.R01 {K : Cfg} (ok : K.Ok) : ¬ 0 = K.gR ∧ ¬ 1 = K.gR := by have := ok.R0; omega

/-- A store into the reader's own block: the rest stands. -/
theorem Br.kpR {K : Cfg} {w : World} (j : Nat) (v : Value) : Kp (fun k => k = K.gR) w (w.setCell ⟨K.gR, j, none⟩ v) := (Kp.refl (fun k => k = K.gR) w).setCell (p := ⟨K.gR, j, none⟩) rfl v

/-- lastByte, lastRuneSize. -/
theorem Br.setLast {K : Cfg} {w : World} {r wd i p : Nat} {err : Value} (h : Br K w r wd i p err) (ok : K.Ok) (j : Nat) (hj : j = 5 ∨ j = 6) (x : Int) : Br K (w.setCell ⟨K.gR, j, none⟩ (.int .i64 x)) r wd i p err := by
  have hk := Br.kpR (K := K) (w := w) j (.int .i64 x)
  obtain ⟨x5, h5⟩ := h.b5
  obtain ⟨x6, h6⟩ := h.b6
  obtain ⟨cur, hg, hc⟩ := h.buf.ex
  refine ⟨h.src.kept ok hk ok.R01.1 ok.bR ok.srcR, ?_, ?_, ?_, ?_, ?_, ?_, ?_, ?_, ⟨cur, hk.row hg (Ne.symm ok.Rf), hc⟩, h.rw, h.w4, h.pos, h.er, hk.cell ok.R01.2 h.unx⟩
  · rcases hj with rfl | rfl <;> simp [go_sem, h.b0]
  · rcases hj with rfl | rfl <;> simp [go_sem, h.b1]
  · rcases hj with rfl | rfl <;> simp [go_sem, h.b2]
  · rcases hj with rfl | rfl <;> simp [go_sem, h.b3]
  · rcases hj with rfl | rfl <;> simp [go_sem, h.b4]
  · rcases hj with rfl | rfl
    · exact ⟨x, by simp [go_sem, h5]⟩
    · exact ⟨x5, by simp [go_sem, h5]⟩
  · rcases hj with rfl | rfl
    · exact ⟨x6, by simp [go_sem, h6]⟩
    · exact ⟨x, by simp [go_sem, h6]⟩
  · intro k; simpa [go_sem] using h.fz k

/-- r goes on: some bytes are taken. -/
theorem Br.setR {K : Cfg} {w : World} {r wd i p : Nat} {err : Value} (h : Br K w r wd i p err) (ok : K.Ok) (n : Nat) (hn : r + n ≤ wd) : Br K (w.setCell ⟨K.gR, 2, none⟩ (.int .i64 ((r : Int) + (n : Int)))) (r + n) wd i (p + n) err := by
  have hk := Br.kpR (K := K) (w := w) 2 (.int .i64 ((r : Int) + (n : Int)))
  obtain ⟨x5, h5⟩ := h.b5
  obtain ⟨x6, h6⟩ := h.b6
  obtain ⟨cur, hg, hcl, hc⟩ := h.buf.ex
  have hp := h.pos
  have hr := h.rw
  refine ⟨h.src.kept ok hk ok.R01.1 ok.bR ok.srcR, by simp [go_sem, h.b0], by simp [go_sem, h.b1], by simp [go_sem, h.b2], by simp [go_sem, h.b3], by simp [go_sem, h.b4], ⟨x5, by simp [go_sem, h5]⟩, ⟨x6, by simp [go_sem, h6]⟩,
    fun k => by simpa [go_sem] using h.fz k, ⟨cur, hk.row hg (Ne.symm ok.Rf), hcl, fun j h1 h2 => ?_⟩, hn, h.w4, by omega, h.er, hk.cell ok.R01.2 h.unx⟩
  rw [hc j (by omega) h2, show p + (j - r) = p + n + (j - (r + n)) from by omega]

/-- The error that waits. -/
theorem Br.setErr {K : Cfg} {w : World} {r wd i p : Nat} {err : Value} (h : Br K w r wd i p err) (ok : K.Ok) (v : Value) (hv : v = .nilIface ∨ (v = .iface 75 (.pointer (some K.ea)) ∧ i = K.N)) : Br K (w.setCell ⟨K.gR, 4, none⟩ v) r wd i p v := by
  have hk := Br.kpR (K := K) (w := w) 4 v
  obtain ⟨x5, h5⟩ := h.b5
  obtain ⟨x6, h6⟩ := h.b6
  obtain ⟨cur, hg, hc⟩ := h.buf.ex
  exact ⟨h.src.kept ok hk ok.R01.1 ok.bR ok.srcR, by simp [go_sem, h.b0], by simp [go_sem, h.b1], by simp [go_sem, h.b2], by simp [go_sem, h.b3], by simp [go_sem, h.b4], ⟨x5, by simp [go_sem, h5]⟩, ⟨x6, by simp [go_sem, h6]⟩,
    fun k => by simpa [go_sem] using h.fz k, ⟨cur, hk.row hg (Ne.symm ok.Rf), hc⟩, h.rw, h.w4, h.pos, hv, hk.cell ok.R01.2 h.unx⟩

/-- What is buffered slides to the buffer's head. -/
theorem Br.slide {K : Cfg} {w w2 : World} {r wd i p : Nat} {err : Value} (h : Br K w r wd i p err) (ok : K.Ok) (cur : List Value) (hg : w.heap[K.gf]? = some (.cells cur.toArray 5 (0, 0))) (hcl : cur.length = K.B)
    (hp2 : Poke K.gf w w2) (hg2 : w2.heap[K.gf]? = some (.cells (splice cur 0 ((cur.drop r).take (wd - r))).toArray 5 (0, 0))) :
    Br K ((w2.setCell ⟨K.gR, 3, none⟩ (.int .i64 ((wd : Int) - (r : Int)))).setCell ⟨K.gR, 2, none⟩ (.int .i64 0)) 0 (wd - r) i p err := by
  have hrw := h.rw
  have hw4 := h.w4
  have hRf : K.gR ≠ K.gf := ok.Rf
  have k2 : Kp (fun k => k = K.gR ∨ k = K.gf) w ((w2.setCell ⟨K.gR, 3, none⟩ (.int .i64 ((wd : Int) - (r : Int)))).setCell ⟨K.gR, 2, none⟩ (.int .i64 0)) :=
    ((((Kp.refl _ _).poke (Or.inr rfl) hp2).setCell (Or.inl rfl) _).setCell (Or.inl rfl) _)
  obtain ⟨x5, h5⟩ := h.b5
  obtain ⟨x6, h6⟩ := h.b6
  obtain ⟨cur', hg', hcl', hc⟩ := h.buf.ex
  obtain rfl : cur = cur' := by
    rw [hg] at hg'
    have h9 := Option.some.inj hg'
    injection h9 with h9
    have h10 := congrArg Array.toList h9
    simpa using h10
  have c : ∀ j, w2.cell? ⟨K.gR, j, none⟩ = w.cell? ⟨K.gR, j, none⟩ := fun j => hp2.cell (a := ⟨K.gR, j, none⟩) hRf
  have hl := cur_drop cur r (wd - r) (by omega)
  have ecast : ((wd - r : Nat) : Int) = (wd : Int) - (r : Int) := by omega
  refine ⟨h.src.kept ok k2 (by have := ok.R0; have := ok.f0; omega) (by have := ok.bR; have := ok.bf; omega) (fun b o e => by have := ok.src b o e; omega), by simp [go_sem, c, h.b0], by simp [go_sem, c, h.b1], by simp [go_sem, c, h.b2], by simp [go_sem, c, h.b3, ecast], by simp [go_sem, c, h.b4], ⟨x5, by simp [go_sem, c, h5]⟩, ⟨x6, by simp [go_sem, c, h6]⟩,
    fun k => by have := hp2.frozen (a := ⟨K.gR, k, none⟩) hRf; simpa [go_sem, this] using h.fz k, ⟨splice cur 0 ((cur.drop r).take (wd - r)), ?_, ?_, fun j h1 h2 => ?_⟩, Nat.zero_le _, by omega, by have := h.pos; omega, h.er, k2.cell (by show ¬ (1 = K.gR ∨ 1 = K.gf); have := ok.R0; have := ok.f0; omega) h.unx⟩
  · rw [Below.heap_setCell _ _ _ _ (Ne.symm hRf), Below.heap_setCell _ _ _ _ (Ne.symm hRf)]
    exact hg2
  · rw [length_splice _ _ _ (by omega), hcl]
  · simp only [splice, List.take_zero, List.nil_append]
    rw [List.getElem?_append_left (by omega), List.getElem?_take_of_lt h2, List.getElem?_drop, hc (r + j) (by omega) (by omega), show p + (r + j - r) = p + (j - 0) from by omega]

theorem Kp.of_drew {X : Nat → Prop} {a b : World} (h : Kp X a.drew b) : Kp X a b := ⟨h.os, h.tape, h.output, h.size, h.block⟩
theorem Kp.of_drewN {X : Nat → Prop} {a b : World} {n : Nat} (h : Kp X (a.drewN n) b) : Kp X a b := ⟨h.os, h.tape, h.output, h.size, h.block⟩

/-- A store of wd's own value. -/
theorem Br.setW {K : Cfg} {w : World} {r wd i p : Nat} {err : Value} (h : Br K w r wd i p err) (ok : K.Ok) : Br K (w.setCell ⟨K.gR, 3, none⟩ (.int .i64 wd)) r wd i p err := by
  have hk := Br.kpR (K := K) (w := w) 3 (.int .i64 wd)
  obtain ⟨x5, h5⟩ := h.b5
  obtain ⟨x6, h6⟩ := h.b6
  obtain ⟨cur, hg, hc⟩ := h.buf.ex
  exact ⟨h.src.kept ok hk ok.R01.1 ok.bR ok.srcR, by simp [go_sem, h.b0], by simp [go_sem, h.b1], by simp [go_sem, h.b2], by simp [go_sem, h.b3], by simp [go_sem, h.b4], ⟨x5, by simp [go_sem, h5]⟩, ⟨x6, by simp [go_sem, h6]⟩,
    fun k => by simpa [go_sem] using h.fz k, ⟨cur, hk.row hg (Ne.symm ok.Rf), hc⟩, h.rw, h.w4, h.pos, h.er, hk.cell ok.R01.2 h.unx⟩

/-- Behind a read into the buffer: the source has gone on, the buffer holds more. -/
theorem Br.filled {K : Cfg} {w1 w2 : World} {q i p n : Nat} {err : Value} (h : Br K w1 0 q i p err) (ok : K.Ok) (cur : List Value) (hcl : cur.length = K.B) (hcur : ∀ j, 0 ≤ j → j < q → cur[j]? = some (.int .u8 (K.S.getD (p + (j - 0)) 0)))
    (hk : Kp (fun k => k = K.gb ∨ k = K.gf) w1 w2) (hs : Src K w2 (i + n)) (hg2 : w2.heap[K.gf]? = some (.cells (splice cur q (K.cut i n)).toArray 5 (0, 0))) (hn : i + n ≤ K.N) (hq : q + n ≤ K.B) (hei : err = .nilIface) :
    Br K (w2.setCell ⟨K.gR, 3, none⟩ (.int .i64 ((q : Int) + (n : Int)))) 0 (q + n) (i + n) p err := by
  have nR : ¬ (K.gR = K.gb ∨ K.gR = K.gf) := by have := ok.bR; have := ok.Rf; omega
  have hkR := Br.kpR (K := K) (w := w2) 3 (.int .i64 ((q : Int) + (n : Int)))
  obtain ⟨x5, h5⟩ := h.b5
  obtain ⟨x6, h6⟩ := h.b6
  have hlen := K.length_cut ok i n hn
  have hpos := h.pos
  have f := fun j => (hk.frozen (a := ⟨K.gR, j, none⟩) h.lt nR).trans (h.fz j)
  refine ⟨hs.kept ok hkR ok.R01.1 ok.bR ok.srcR, by simp [go_sem, hk.cell nR h.b0], by simp [go_sem, hk.cell nR h.b1], by simp [go_sem, hk.cell nR h.b2], by simp [go_sem, hk.cell nR h.b3], by simp [go_sem, hk.cell nR h.b4], ⟨x5, by simp [go_sem, hk.cell nR h5]⟩, ⟨x6, by simp [go_sem, hk.cell nR h6]⟩,
    fun k => by simpa [go_sem] using f k, ⟨splice cur q (K.cut i n), ?_, ?_, fun j h1 h2 => ?_⟩, Nat.zero_le _, hq, by omega, Or.inl hei, hkR.cell ok.R01.2 (hk.cell (by show ¬ (1 = K.gb ∨ 1 = K.gf); have := ok.b0; have := ok.f0; omega) h.unx)⟩
  · rw [Below.heap_setCell _ _ _ _ (Ne.symm ok.Rf)]
    exact hg2
  · rw [length_splice _ _ _ (by rw [hlen]; omega), hcl]
  · simp only [splice]
    by_cases hj : j < q
    · rw [List.getElem?_append_left (by rw [List.length_take]; omega), List.getElem?_take_of_lt hj, hcur j h1 hj]
    · rw [List.getElem?_append_right (by rw [List.length_take]; omega), List.length_take, List.getElem?_append_left (by rw [hlen]; omega), Nat.min_eq_left (by omega), K.cut_get ok i n (j - q) hn (by omega), show i + (j - q) = p + (j - 0) from by omega]

/-- Behind a read past an empty buffer: the source has gone on. -/
theorem Br.jump {K : Cfg} {w w2 : World} {r wd i p n : Nat} {err : Value} (h : Br K w r wd i p err) (ok : K.Ok) {X : Nat → Prop} (hk : Kp X w w2) (h1 : ¬ X 1) (hR : ¬ X K.gR) (hf : ¬ X K.gf) (hs : Src K w2 (i + n)) (hrw : r = wd) (her : err = .nilIface) :
    Br K w2 r wd (i + n) (p + n) err := by
  obtain ⟨x5, h5⟩ := h.b5
  obtain ⟨x6, h6⟩ := h.b6
  obtain ⟨cur, hg, hcl, hc⟩ := h.buf.ex
  have hp := h.pos
  exact ⟨hs, hk.cell hR h.b0, hk.cell hR h.b1, hk.cell hR h.b2, hk.cell hR h.b3, hk.cell hR h.b4, ⟨x5, hk.cell hR h5⟩, ⟨x6, hk.cell hR h6⟩,
    fun j => (hk.frozen (a := ⟨K.gR, j, none⟩) h.lt hR).trans (h.fz j), ⟨cur, hk.row hg hf, hcl, fun j h2 h3 => by omega⟩, h.rw, h.w4, by omega, Or.inl her, hk.cell h1 h.unx⟩

/-- An empty buffer set to its head. -/
theorem Br.zero {K : Cfg} {w : World} {r wd i p : Nat} {err : Value} (h : Br K w r wd i p err) (ok : K.Ok) (hrw : r = wd) : Br K ((w.setCell ⟨K.gR, 2, none⟩ (.int .i64 0)).setCell ⟨K.gR, 3, none⟩ (.int .i64 0)) 0 0 i p err := by
  have hk := (Br.kpR (K := K) (w := w) 2 (.int .i64 0)).trans (Br.kpR (K := K) 3 (.int .i64 0))
  obtain ⟨x5, h5⟩ := h.b5
  obtain ⟨x6, h6⟩ := h.b6
  obtain ⟨cur, hg, hcl, hc⟩ := h.buf.ex
  have hp := h.pos
  exact ⟨h.src.kept ok hk ok.R01.1 ok.bR ok.srcR, by simp [go_sem, h.b0], by simp [go_sem, h.b1], by simp [go_sem, h.b2], by simp [go_sem, h.b3], by simp [go_sem, h.b4], ⟨x5, by simp [go_sem, h5]⟩, ⟨x6, by simp [go_sem, h6]⟩,
    fun k => by simpa [go_sem] using h.fz k, ⟨cur, hk.row hg (Ne.symm ok.Rf), hcl, fun j h2 h3 => by omega⟩, Nat.le_refl _, Nat.zero_le _, by omega, h.er, hk.cell ok.R01.2 h.unx⟩

/-- The two sentinels' own blocks are there, unmarked. -/
structure Sen (K : Cfg) (w : World) : Prop where
  e : ∃ c t, w.heap[K.ea.block]? = some (.cells c t (0, 0))
  u : ∃ c t, w.heap[K.ua.block]? = some (.cells c t (0, 0))
  xe : ¬ K.X K.ea.block
  xu : ¬ K.X K.ua.block

theorem Sen.kept {K : Cfg} {w w' : World} (h : Sen K w) (hk : Kp K.X w w') : Sen K w' := by
  obtain ⟨c, t, h1⟩ := h.e
  obtain ⟨c', t', h2⟩ := h.u
  exact ⟨⟨c, t, hk.row h1 h.xe⟩, ⟨c', t', hk.row h2 h.xu⟩, h.xe, h.xu⟩

/-- The number that four bytes of the source spell, the least first. -/
def Cfg.le4 (K : Cfg) (p : Nat) : Int := K.S.getD p 0 + K.S.getD (p + 1) 0 * 256 + K.S.getD (p + 2) 0 * 65536 + K.S.getD (p + 3) 0 * 16777216

end Go.Proofs.Qxb6606225aDoor
