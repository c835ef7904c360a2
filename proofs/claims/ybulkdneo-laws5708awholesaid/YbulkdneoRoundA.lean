/-
  Seat b5708a: law A's second loop: the world's facts in a round, no walk.
-/
import Derived.Test.YbulkdneoFillA
namespace Go.Proofs.Ybulkdneo
open Go.RowKit

/-- In a round: the variable 'e' at block N (eight cells), the variable 'in' at block N + 1 (four cells); N: the heap's size as the round began. -/
structure RndA (wr wx : World) (e0 e1 e2 e3 e4 : Sl) (xb yb : Bool) : Prop where
  bel : Below wr.heap.size wr wx
  sz : wr.heap.size + 1 < wx.heap.size
  q0 : wx.cell? ⟨wr.heap.size, 0, none⟩ = some (.slice e0.a e0.n e0.c)
  q1 : wx.cell? ⟨wr.heap.size, 1, none⟩ = some (.slice e1.a e1.n e1.c)
  q2 : wx.cell? ⟨wr.heap.size, 2, none⟩ = some (.slice e2.a e2.n e2.c)
  q3 : wx.cell? ⟨wr.heap.size, 3, none⟩ = some (.slice e3.a e3.n e3.c)
  q4 : wx.cell? ⟨wr.heap.size, 4, none⟩ = some (.slice e4.a e4.n e4.c)
  q5 : wx.cell? ⟨wr.heap.size, 5, none⟩ = some (.bool xb)
  q6 : wx.cell? ⟨wr.heap.size, 6, none⟩ = some (.bool yb)
  rin : ∀ o, o < 4 → (∃ v, wx.cell? ⟨wr.heap.size + 1, o, none⟩ = some v) ∧ wx.frozen? ⟨wr.heap.size + 1, o, none⟩ = false

theorem RndA.start (wr : World) (e0 e1 e2 e3 e4 : Sl) (xb yb mb : Bool) : RndA wr ((wr.alloc (Obj.cells #[.slice e0.a e0.n e0.c, .slice e1.a e1.n e1.c, .slice e2.a e2.n e2.c, .slice e3.a e3.n e3.c, .slice e4.a e4.n e4.c, .bool xb, .bool yb, .bool mb] 25)).alloc (Obj.cells #[.slice none 0 0, .slice none 0 0, .slice none 0 0, .slice none 0 0] 29)) e0 e1 e2 e3 e4 xb yb := by
  refine ⟨((Below.refl _ _).alloc (Nat.le_refl _) _).alloc (by simp) _, by simp, by simp [go_sem], by simp [go_sem], by simp [go_sem], by simp [go_sem], by simp [go_sem], by simp [go_sem], by simp [go_sem], fun o ho => ⟨⟨.slice none 0 0, ?_⟩, by simp [go_sem]⟩⟩
  match o, ho with
  | 0, _ => simp [go_sem]
  | 1, _ => simp [go_sem]
  | 2, _ => simp [go_sem]
  | 3, _ => simp [go_sem]

theorem RndA.next {wr w1 w2 : World} {e0 e1 e2 e3 e4 : Sl} {xb yb : Bool} (h : RndA wr w1 e0 e1 e2 e3 e4 xb yb) (hb : Below w1.heap.size w1 w2) : RndA wr w2 e0 e1 e2 e3 e4 xb yb := by
  have hz := h.sz
  refine ⟨h.bel.trans (hb.mono h.bel.size), Nat.lt_of_lt_of_le hz hb.size, (hb.cell (cell_lt h.q0)).trans h.q0, (hb.cell (cell_lt h.q1)).trans h.q1, (hb.cell (cell_lt h.q2)).trans h.q2, (hb.cell (cell_lt h.q3)).trans h.q3, (hb.cell (cell_lt h.q4)).trans h.q4, (hb.cell (cell_lt h.q5)).trans h.q5, (hb.cell (cell_lt h.q6)).trans h.q6, fun o ho => ?_⟩
  obtain ⟨⟨v, hv⟩, hf⟩ := h.rin o ho
  exact ⟨⟨v, (hb.cell (cell_lt hv)).trans hv⟩, (hb.frozen (by show wr.heap.size + 1 < _; omega)).trans hf⟩

theorem RndA.set {wr w1 : World} {e0 e1 e2 e3 e4 : Sl} {xb yb : Bool} (h : RndA wr w1 e0 e1 e2 e3 e4 xb yb) (o : Nat) (v : Value) : RndA wr (w1.setCell ⟨wr.heap.size + 1, o, none⟩ v) e0 e1 e2 e3 e4 xb yb := by
  have old : ∀ o', (w1.setCell ⟨wr.heap.size + 1, o, none⟩ v).cell? ⟨wr.heap.size, o', none⟩ = w1.cell? ⟨wr.heap.size, o', none⟩ := fun o' => World.cell?_of_block (Deep.blk_setCell_other _ _ _ _ (by show wr.heap.size ≠ wr.heap.size + 1; omega))
  refine ⟨h.bel.setCell (by show wr.heap.size ≤ wr.heap.size + 1; omega) _, by rw [Deep.nblk_setCell]; exact h.sz, (old 0).trans h.q0, (old 1).trans h.q1, (old 2).trans h.q2, (old 3).trans h.q3, (old 4).trans h.q4, (old 5).trans h.q5, (old 6).trans h.q6, fun o' ho => ?_⟩
  obtain ⟨⟨u, hu⟩, hf⟩ := h.rin o' ho
  obtain ⟨u', hu'⟩ := cell?_setCell_some (w := w1) (p := ⟨wr.heap.size + 1, o, none⟩) (x := v) hu
  exact ⟨⟨u', hu'⟩, by rw [World.frozen?_setCell]; exact hf⟩

/-- Four stores into the variable 'in'. -/
def put4 (w : World) (N : Nat) (v0 v1 v2 v3 : Value) : World :=
  (((w.setCell ⟨N + 1, 0, none⟩ v0).setCell ⟨N + 1, 1, none⟩ v1).setCell ⟨N + 1, 2, none⟩ v2).setCell ⟨N + 1, 3, none⟩ v3

/-- The round's state behind the first 'if': 'in' holds four byte slices of new memory, with the bytes y1 .. y4. -/
structure InA (wr wx : World) (e0 e1 e2 e3 e4 : Sl) (xb yb : Bool) (t1 t2 t3 t4 : Sl) (y1 y2 y3 y4 : List Int) : Prop where
  rnd : RndA wr wx e0 e1 e2 e3 e4 xb yb
  p0 : wx.cell? ⟨wr.heap.size + 1, 0, none⟩ = some (.slice t1.a t1.n t1.c)
  p1 : wx.cell? ⟨wr.heap.size + 1, 1, none⟩ = some (.slice t2.a t2.n t2.c)
  p2 : wx.cell? ⟨wr.heap.size + 1, 2, none⟩ = some (.slice t3.a t3.n t3.c)
  p3 : wx.cell? ⟨wr.heap.size + 1, 3, none⟩ = some (.slice t4.a t4.n t4.c)
  r : SR wx t1 ∧ SR wx t2 ∧ SR wx t3 ∧ SR wx t4
  z : t1.z = y1 ∧ t2.z = y2 ∧ t3.z = y3 ∧ t4.z = y4
  fr : (∀ x : Addr, t1.a = some x → wr.heap.size + 1 < x.block) ∧ (∀ x : Addr, t2.a = some x → wr.heap.size + 1 < x.block) ∧ (∀ x : Addr, t3.a = some x → wr.heap.size + 1 < x.block) ∧ (∀ x : Addr, t4.a = some x → wr.heap.size + 1 < x.block)

theorem InA.made {wr w1 : World} {e0 e1 e2 e3 e4 : Sl} {xb yb : Bool} {t1 t2 t3 t4 : Sl} {y1 y2 y3 y4 : List Int} (h : RndA wr w1 e0 e1 e2 e3 e4 xb yb) (r : SR w1 t1 ∧ SR w1 t2 ∧ SR w1 t3 ∧ SR w1 t4) (z : t1.z = y1 ∧ t2.z = y2 ∧ t3.z = y3 ∧ t4.z = y4)
    (fr : (∀ x : Addr, t1.a = some x → wr.heap.size + 1 < x.block) ∧ (∀ x : Addr, t2.a = some x → wr.heap.size + 1 < x.block) ∧ (∀ x : Addr, t3.a = some x → wr.heap.size + 1 < x.block) ∧ (∀ x : Addr, t4.a = some x → wr.heap.size + 1 < x.block)) :
    InA wr (put4 w1 wr.heap.size (.slice t1.a t1.n t1.c) (.slice t2.a t2.n t2.c) (.slice t3.a t3.n t3.c) (.slice t4.a t4.n t4.c)) e0 e1 e2 e3 e4 xb yb t1 t2 t3 t4 y1 y2 y3 y4 := by
  obtain ⟨⟨u0, k0⟩, _⟩ := h.rin 0 (by omega)
  obtain ⟨⟨u1, k1⟩, _⟩ := h.rin 1 (by omega)
  obtain ⟨⟨u2, k2⟩, _⟩ := h.rin 2 (by omega)
  obtain ⟨⟨u3, k3⟩, _⟩ := h.rin 3 (by omega)
  refine ⟨(((h.set 0 _).set 1 _).set 2 _).set 3 _, ?_, ?_, ?_, ?_, ⟨r.1.set4 fr.1 _ _ _ _, r.2.1.set4 fr.2.1 _ _ _ _, r.2.2.1.set4 fr.2.2.1 _ _ _ _, r.2.2.2.set4 fr.2.2.2 _ _ _ _⟩, z, fr⟩
  · simp [put4, go_sem, k0]
  · simp [put4, go_sem, k1]
  · simp [put4, go_sem, k2]
  · simp [put4, go_sem, k3]

theorem InA.next {wr w1 w2 : World} {e0 e1 e2 e3 e4 : Sl} {xb yb : Bool} {t1 t2 t3 t4 : Sl} {y1 y2 y3 y4 : List Int} (h : InA wr w1 e0 e1 e2 e3 e4 xb yb t1 t2 t3 t4 y1 y2 y3 y4) (hb : Below w1.heap.size w1 w2) : InA wr w2 e0 e1 e2 e3 e4 xb yb t1 t2 t3 t4 y1 y2 y3 y4 :=
  ⟨h.rnd.next hb, (hb.cell (cell_lt h.p0)).trans h.p0, (hb.cell (cell_lt h.p1)).trans h.p1, (hb.cell (cell_lt h.p2)).trans h.p2, (hb.cell (cell_lt h.p3)).trans h.p3, ⟨h.r.1.below hb, h.r.2.1.below hb, h.r.2.2.1.below hb, h.r.2.2.2.below hb⟩, h.z, h.fr⟩

theorem FillA.next7 {w5 wr w1 : World} {al : Option Addr} {n k : Nat} {Zs : Nat → Nat → List Int} {X Y : Nat → Bool} (h : FillA w5 wr al n k Zs X Y) (hk : k < n) (hb : Below wr.heap.size wr w1) :
    (∃ v, w1.cell? ⟨w5.heap.size, k * 7, none⟩ = some v) ∧ w1.frozen? ⟨w5.heap.size, k * 7, none⟩ = false ∧ (∃ v, w1.cell? ⟨w5.heap.size, k * 7 + 1, none⟩ = some v) ∧ w1.frozen? ⟨w5.heap.size, k * 7 + 1, none⟩ = false ∧ (∃ v, w1.cell? ⟨w5.heap.size, k * 7 + 1 + 1, none⟩ = some v) ∧ w1.frozen? ⟨w5.heap.size, k * 7 + 1 + 1, none⟩ = false ∧ (∃ v, w1.cell? ⟨w5.heap.size, k * 7 + 1 + 1 + 1, none⟩ = some v) ∧ w1.frozen? ⟨w5.heap.size, k * 7 + 1 + 1 + 1, none⟩ = false ∧ (∃ v, w1.cell? ⟨w5.heap.size, k * 7 + 1 + 1 + 1 + 1, none⟩ = some v) ∧ w1.frozen? ⟨w5.heap.size, k * 7 + 1 + 1 + 1 + 1, none⟩ = false ∧ (∃ v, w1.cell? ⟨w5.heap.size, k * 7 + 1 + 1 + 1 + 1 + 1, none⟩ = some v) ∧ w1.frozen? ⟨w5.heap.size, k * 7 + 1 + 1 + 1 + 1 + 1, none⟩ = false ∧ (∃ v, w1.cell? ⟨w5.heap.size, k * 7 + 1 + 1 + 1 + 1 + 1 + 1, none⟩ = some v) ∧ w1.frozen? ⟨w5.heap.size, k * 7 + 1 + 1 + 1 + 1 + 1 + 1, none⟩ = false :=
  have h0 := (h.next hk hb).2
  ⟨(h0 0 (by omega)).1, (h0 0 (by omega)).2, (h0 1 (by omega)).1, (h0 1 (by omega)).2, (h0 2 (by omega)).1, (h0 2 (by omega)).2, (h0 3 (by omega)).1, (h0 3 (by omega)).2, (h0 4 (by omega)).1, (h0 4 (by omega)).2, (h0 5 (by omega)).1, (h0 5 (by omega)).2, (h0 6 (by omega)).1, (h0 6 (by omega)).2⟩

/-- The cells that the store of a session reads. -/
def CellsA (N : Nat) (w : World) (e0 t1 t2 t3 t4 : Sl) (xb yb : Bool) : Prop :=
  w.cell? ⟨N, 0, none⟩ = some (.slice e0.a e0.n e0.c) ∧ w.cell? ⟨N, 5, none⟩ = some (.bool xb) ∧ w.cell? ⟨N, 6, none⟩ = some (.bool yb) ∧ w.cell? ⟨N + 1, 0, none⟩ = some (.slice t1.a t1.n t1.c) ∧ w.cell? ⟨N + 1, 1, none⟩ = some (.slice t2.a t2.n t2.c) ∧ w.cell? ⟨N + 1, 2, none⟩ = some (.slice t3.a t3.n t3.c) ∧ w.cell? ⟨N + 1, 3, none⟩ = some (.slice t4.a t4.n t4.c)
theorem InA.cells {wr wx : World} {e0 e1 e2 e3 e4 : Sl} {xb yb : Bool} {t1 t2 t3 t4 : Sl} {y1 y2 y3 y4 : List Int} (h : InA wr wx e0 e1 e2 e3 e4 xb yb t1 t2 t3 t4 y1 y2 y3 y4) : CellsA wr.heap.size wx e0 t1 t2 t3 t4 xb yb :=
  ⟨h.rnd.q0, h.rnd.q5, h.rnd.q6, h.p0, h.p1, h.p2, h.p3⟩
theorem CellsA.put7 {N B o : Nat} {w : World} {e0 t1 t2 t3 t4 : Sl} {xb yb : Bool} (h : CellsA N w e0 t1 t2 t3 t4 xb yb) (hB : B < N) (v0 v1 v2 v3 v4 v5 v6 : Value) : CellsA N (put7 w B o v0 v1 v2 v3 v4 v5 v6) e0 t1 t2 t3 t4 xb yb := by
  have c1 : ∀ o', (Ybulkdneo.put7 w B o v0 v1 v2 v3 v4 v5 v6).cell? ⟨N, o', none⟩ = w.cell? ⟨N, o', none⟩ := fun o' => World.cell?_of_block (put7_other N (by omega))
  have c2 : ∀ o', (Ybulkdneo.put7 w B o v0 v1 v2 v3 v4 v5 v6).cell? ⟨N + 1, o', none⟩ = w.cell? ⟨N + 1, o', none⟩ := fun o' => World.cell?_of_block (put7_other (N + 1) (by omega))
  obtain ⟨h0, h1, h2, h3, h4, h5, h6⟩ := h
  exact ⟨(c1 0).trans h0, (c1 5).trans h1, (c1 6).trans h2, (c2 0).trans h3, (c2 1).trans h4, (c2 2).trans h5, (c2 3).trans h6⟩

/-- The variable 's' of the third loop at block N = wr.heap.size: seven cells. -/
structure SVar (wr w : World) (t0 t1 t2 t3 t4 : Sl) (xb yb : Bool) : Prop where
  bel : Below wr.heap.size wr w
  sz : wr.heap.size < w.heap.size
  q0 : w.cell? ⟨wr.heap.size, 0, none⟩ = some (.slice t0.a t0.n t0.c)
  q1 : w.cell? ⟨wr.heap.size, 1, none⟩ = some (.slice t1.a t1.n t1.c)
  q2 : w.cell? ⟨wr.heap.size, 2, none⟩ = some (.slice t2.a t2.n t2.c)
  q3 : w.cell? ⟨wr.heap.size, 3, none⟩ = some (.slice t3.a t3.n t3.c)
  q4 : w.cell? ⟨wr.heap.size, 4, none⟩ = some (.slice t4.a t4.n t4.c)
  q5 : w.cell? ⟨wr.heap.size, 5, none⟩ = some (.bool xb)
  q6 : w.cell? ⟨wr.heap.size, 6, none⟩ = some (.bool yb)
theorem SVar.start (wr : World) (t0 t1 t2 t3 t4 : Sl) (xb yb : Bool) : SVar wr (wr.alloc (Obj.cells #[.slice t0.a t0.n t0.c, .slice t1.a t1.n t1.c, .slice t2.a t2.n t2.c, .slice t3.a t3.n t3.c, .slice t4.a t4.n t4.c, .bool xb, .bool yb] 34)).drew t0 t1 t2 t3 t4 xb yb :=
  ⟨((Below.refl _ _).alloc (Nat.le_refl _) _).drew, by simp, by simp [go_sem], by simp [go_sem], by simp [go_sem], by simp [go_sem], by simp [go_sem], by simp [go_sem], by simp [go_sem]⟩
theorem SVar.next {wr w1 w2 : World} {t0 t1 t2 t3 t4 : Sl} {xb yb : Bool} (h : SVar wr w1 t0 t1 t2 t3 t4 xb yb) (hb : Below w1.heap.size w1 w2) : SVar wr w2 t0 t1 t2 t3 t4 xb yb :=
  ⟨h.bel.trans (hb.mono h.bel.size), Nat.lt_of_lt_of_le h.sz hb.size, (hb.cell (cell_lt h.q0)).trans h.q0, (hb.cell (cell_lt h.q1)).trans h.q1, (hb.cell (cell_lt h.q2)).trans h.q2, (hb.cell (cell_lt h.q3)).trans h.q3, (hb.cell (cell_lt h.q4)).trans h.q4, (hb.cell (cell_lt h.q5)).trans h.q5, (hb.cell (cell_lt h.q6)).trans h.q6⟩
/-- The seven cells. -/
def CellsS (N : Nat) (w : World) (t0 t1 t2 t3 t4 : Sl) (xb yb : Bool) : Prop :=
  w.cell? ⟨N, 0, none⟩ = some (.slice t0.a t0.n t0.c) ∧ w.cell? ⟨N, 1, none⟩ = some (.slice t1.a t1.n t1.c) ∧ w.cell? ⟨N, 2, none⟩ = some (.slice t2.a t2.n t2.c) ∧ w.cell? ⟨N, 3, none⟩ = some (.slice t3.a t3.n t3.c) ∧ w.cell? ⟨N, 4, none⟩ = some (.slice t4.a t4.n t4.c) ∧ w.cell? ⟨N, 5, none⟩ = some (.bool xb) ∧ w.cell? ⟨N, 6, none⟩ = some (.bool yb)
theorem SVar.cells {wr w : World} {t0 t1 t2 t3 t4 : Sl} {xb yb : Bool} (h : SVar wr w t0 t1 t2 t3 t4 xb yb) : CellsS wr.heap.size w t0 t1 t2 t3 t4 xb yb := ⟨h.q0, h.q1, h.q2, h.q3, h.q4, h.q5, h.q6⟩
theorem CellsS.put7 {N B o : Nat} {w : World} {t0 t1 t2 t3 t4 : Sl} {xb yb : Bool} (h : CellsS N w t0 t1 t2 t3 t4 xb yb) (hB : B < N) (v0 v1 v2 v3 v4 v5 v6 : Value) : CellsS N (put7 w B o v0 v1 v2 v3 v4 v5 v6) t0 t1 t2 t3 t4 xb yb := by
  have c1 : ∀ o', (Ybulkdneo.put7 w B o v0 v1 v2 v3 v4 v5 v6).cell? ⟨N, o', none⟩ = w.cell? ⟨N, o', none⟩ := fun o' => World.cell?_of_block (put7_other N (by omega))
  obtain ⟨h0, h1, h2, h3, h4, h5, h6⟩ := h
  exact ⟨(c1 0).trans h0, (c1 1).trans h1, (c1 2).trans h2, (c1 3).trans h3, (c1 4).trans h4, (c1 5).trans h5, (c1 6).trans h6⟩

/-- The bytes that session j is made of: entry j's, or, where 'Same' is set, the init's. -/
def zsel (E : Nat → Nat → Sl) (M : Nat → Bool) (I0 I1 I2 I3 : Sl) (j : Nat) : Nat → List Int
  | 0 => (E j 0).z
  | 1 => if M j then I0.z else (E j 1).z
  | 2 => if M j then I1.z else (E j 2).z
  | 3 => if M j then I2.z else (E j 3).z
  | _ => if M j then I3.z else (E j 4).z

/-- Session j is not the initiator's and carries the init's four byte strings. -/
def wantB (E : Nat → Nat → Sl) (X M : Nat → Bool) (I0 I1 I2 I3 : Sl) (j : Nat) : Bool :=
  !X j && (eqB (zsel E M I0 I1 I2 I3 j 1) I0.z && eqB (zsel E M I0 I1 I2 I3 j 2) I1.z && eqB (zsel E M I0 I1 I2 I3 j 3) I2.z && eqB (zsel E M I0 I1 I2 I3 j 4) I3.z)

def matchB (E : Nat → Nat → Sl) (M : Nat → Bool) (I0 I1 I2 I3 : Sl) (j : Nat) : Bool :=
  eqB (zsel E M I0 I1 I2 I3 j 1) I0.z && eqB (zsel E M I0 I1 I2 I3 j 2) I1.z && eqB (zsel E M I0 I1 I2 I3 j 3) I2.z && eqB (zsel E M I0 I1 I2 I3 j 4) I3.z
theorem wantB_eq (E : Nat → Nat → Sl) (X M : Nat → Bool) (I0 I1 I2 I3 : Sl) (j : Nat) : wantB E X M I0 I1 I2 I3 j = (!X j && matchB E M I0 I1 I2 I3 j) := rfl
theorem matchB_same {E : Nat → Nat → Sl} {M : Nat → Bool} {I0 I1 I2 I3 : Sl} {j : Nat} (h : true = M j) : true = matchB E M I0 I1 I2 I3 j := by
  simp [matchB, zsel, ← h, eqB]
theorem matchB_own {E : Nat → Nat → Sl} {M : Nat → Bool} {I0 I1 I2 I3 : Sl} {j : Nat} (h : false = M j) : matchB E M I0 I1 I2 I3 j = (eqB (E j 1).z I0.z && eqB (E j 2).z I1.z && eqB (E j 3).z I2.z && eqB (E j 4).z I3.z) := by
  simp [matchB, zsel, ← h]

end Go.Proofs.Ybulkdneo
