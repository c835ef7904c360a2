/-
  Seat b5708a: cloneinit (6).
-/
import Derived.Test.YbulkdneoInit
namespace Go.Proofs.Ybulkdneo
open Go.RowKit

/-- What holds all through cloneinit's region: the result's box, old memory. -/
structure CI (w w' : World) : Prop where
  bel : Below w.heap.size w w'
  sz : w.heap.size + 1 < w'.heap.size
  r : ∀ o, o < 4 → (∃ v, w'.cell? ⟨w.heap.size + 1, o, none⟩ = some v) ∧ w'.frozen? ⟨w.heap.size + 1, o, none⟩ = false

theorem CI.next {w w1 w2 : World} (h : CI w w1) (hb : Below w1.heap.size w1 w2) : CI w w2 :=
  have hz := h.sz
  ⟨h.bel.trans (hb.mono h.bel.size), Nat.lt_of_lt_of_le hz hb.size, fun o ho => ⟨by
    obtain ⟨v, hv⟩ := (h.r o ho).1
    exact ⟨v, (hb.cell (by show w.heap.size + 1 < _; omega)).trans hv⟩, (hb.frozen (by show w.heap.size + 1 < _; omega)).trans (h.r o ho).2⟩⟩

/-- .. and the boxed argument's four cells. -/
def CIS (w : World) (s0 s1 s2 s3 : Sl) (w' : World) : Prop :=
  CI w w' ∧ w'.cell? ⟨w.heap.size, 0, none⟩ = some (.slice s0.a s0.n s0.c) ∧ w'.cell? ⟨w.heap.size, 1, none⟩ = some (.slice s1.a s1.n s1.c) ∧ w'.cell? ⟨w.heap.size, 2, none⟩ = some (.slice s2.a s2.n s2.c) ∧ w'.cell? ⟨w.heap.size, 3, none⟩ = some (.slice s3.a s3.n s3.c)

theorem CIS.start (w : World) (s0 s1 s2 s3 : Sl) : CIS w s0 s1 s2 s3 (((w.alloc (.cells #[.slice s0.a s0.n s0.c, .slice s1.a s1.n s1.c, .slice s2.a s2.n s2.c, .slice s3.a s3.n s3.c] 29)).alloc (.cells #[.slice none 0 0, .slice none 0 0, .slice none 0 0, .slice none 0 0] 29)).drew) := by
  refine ⟨⟨(((Below.refl _ _).alloc (Nat.le_refl _) _).alloc (by simp) _).drew, by simp, fun o ho => ⟨⟨.slice none 0 0, ?_⟩, ?_⟩⟩, by simp [go_sem], by simp [go_sem], by simp [go_sem], by simp [go_sem]⟩
  · match o, ho with
    | 0, _ => simp [go_sem]
    | 1, _ => simp [go_sem]
    | 2, _ => simp [go_sem]
    | 3, _ => simp [go_sem]
  · simp [go_sem]

theorem CIS.next {w w1 w2 : World} {s0 s1 s2 s3 : Sl} (h : CIS w s0 s1 s2 s3 w1) (hb : Below w1.heap.size w1 w2) : CIS w s0 s1 s2 s3 w2 := by
  obtain ⟨h, c0, c1, c2, c3⟩ := h
  have hz := h.sz
  exact ⟨h.next hb, (hb.cell (by show w.heap.size < _; omega)).trans c0, (hb.cell (by show w.heap.size < _; omega)).trans c1, (hb.cell (by show w.heap.size < _; omega)).trans c2, (hb.cell (by show w.heap.size < _; omega)).trans c3⟩

theorem SR.setCell {w : World} {s : Sl} (h : SR w s) {p : Addr} (hp : ∀ x : Addr, s.a = some x → x.block ≠ p.block) (v : Value) : SR (w.setCell p v) s := by
  refine ⟨⟨h.1.len, h.1.cap, h.1.nil, h.1.wf, fun hn => ?_⟩, h.2⟩
  obtain ⟨b, off, e, hc⟩ := h.1.spot hn
  refine ⟨b, off, e, fun i hi => ?_⟩
  rw [← hc i hi]
  exact World.cell?_of_block (Deep.blk_setCell_other w p v b (hp ⟨b, off, none⟩ e))

/-- Memory that lies behind block N + 1: four stores into that block leave it. -/
theorem SR.set4 {w : World} {s : Sl} {N : Nat} (h : SR w s) (hp : ∀ x : Addr, s.a = some x → N + 1 < x.block) (v0 v1 v2 v3 : Value) :
    SR ((((w.setCell ⟨N + 1, 0, none⟩ v0).setCell ⟨N + 1, 1, none⟩ v1).setCell ⟨N + 1, 2, none⟩ v2).setCell ⟨N + 1, 3, none⟩ v3) s := by
  have hp' : ∀ x : Addr, s.a = some x → x.block ≠ N + 1 := fun x hx => by have := hp x hx; omega
  exact (((h.setCell (p := ⟨N + 1, 0, none⟩) hp' _).setCell (p := ⟨N + 1, 1, none⟩) hp' _).setCell (p := ⟨N + 1, 2, none⟩) hp' _).setCell (p := ⟨N + 1, 3, none⟩) hp' _

theorem CIS.set {w w1 : World} {s0 s1 s2 s3 : Sl} (h : CIS w s0 s1 s2 s3 w1) (o : Nat) (v : Value) : CIS w s0 s1 s2 s3 (w1.setCell ⟨w.heap.size + 1, o, none⟩ v) := by
  obtain ⟨h, c0, c1, c2, c3⟩ := h
  have old : ∀ o', (w1.setCell ⟨w.heap.size + 1, o, none⟩ v).cell? ⟨w.heap.size, o', none⟩ = w1.cell? ⟨w.heap.size, o', none⟩ := fun o' => World.cell?_of_block (Deep.blk_setCell_other _ _ _ _ (by show w.heap.size ≠ w.heap.size + 1; omega))
  refine ⟨⟨h.bel.setCell (by show w.heap.size ≤ w.heap.size + 1; omega) _, by rw [Deep.nblk_setCell]; exact h.sz, fun o' ho => ⟨?_, ?_⟩⟩, (old 0).trans c0, (old 1).trans c1, (old 2).trans c2, (old 3).trans c3⟩
  · obtain ⟨u, hu⟩ := (h.r o' ho).1
    obtain ⟨u', hu'⟩ := cell?_setCell_some (w := w1) (p := ⟨w.heap.size + 1, o, none⟩) (x := v) hu
    exact ⟨u', hu'⟩
  · rw [World.frozen?_setCell]; exact (h.r o' ho).2

set_option maxHeartbeats 1000000 in
theorem cloneinit_any (w : World) (s0 s1 s2 s3 : Sl) (h0 : SR w s0) (h1 : SR w s1) (h2 : SR w s2) (h3 : SR w s3) :
    Calls Yba.prog 6 #[.agg #[.slice s0.a s0.n s0.c, .slice s1.a s1.n s1.c, .slice s2.a s2.n s2.c, .slice s3.a s3.n s3.c]] w
      fun e w' => ∃ t0 t1 t2 t3 : Sl, e = .returned (.agg #[.slice t0.a t0.n t0.c, .slice t1.a t1.n t1.c, .slice t2.a t2.n t2.c, .slice t3.a t3.n t3.c]) ∧
        (SR w' t0 ∧ SR w' t1 ∧ SR w' t2 ∧ SR w' t3) ∧ (t0.z = s0.z ∧ t1.z = s1.z ∧ t2.z = s2.z ∧ t3.z = s3.z) ∧ Below w.heap.size w w' ∧ (Fresh w t0 ∧ Fresh w t1 ∧ Fresh w t2 ∧ Fresh w t3) := by
  have hS0 := CIS.start w s0 s1 s2 s3
  have HS : Hid (CIS w s0 s1 s2 s3 (((w.alloc (.cells #[.slice s0.a s0.n s0.c, .slice s1.a s1.n s1.c, .slice s2.a s2.n s2.c, .slice s3.a s3.n s3.c] 29)).alloc (.cells #[.slice none 0 0, .slice none 0 0, .slice none 0 0, .slice none 0 0] 29)).drew)) := hS0
  clear hS0
  go_enter Yba.func6, Yba.ntmps6
  go_wp2
  go_region_held3 (fun w' => CI w w' ∧ w'.cell? ⟨w.heap.size, 0, none⟩ = some (.slice s0.a s0.n s0.c) ∧ w'.cell? ⟨w.heap.size, 1, none⟩ = some (.slice s1.a s1.n s1.c) ∧ w'.cell? ⟨w.heap.size, 2, none⟩ = some (.slice s2.a s2.n s2.c) ∧ w'.cell? ⟨w.heap.size, 3, none⟩ = some (.slice s3.a s3.n s3.c))
    (first | exact CIS.start w s0 s1 s2 s3 | exact S1.out | exact S2.out | exact S3.out | exact S4.out | exact (((S4.out.set 0 _).set 1 _).set 2 _).set 3 _)
    (first
      | (go_at_call_of 5 (Sl.a s0); refine (clone_at w _ s0 HS.out.1.bel h0).mono ?_; rintro e w1 ⟨t0, rfl, r0, z0, b0, f0⟩; have S1 : Hid (CIS w s0 s1 s2 s3 w1) := HS.out.next b0)
      | (go_at_call_of 5 (Sl.a s1); refine (clone_at w _ s1 S1.out.1.bel h1).mono ?_; rintro e w2 ⟨t1, rfl, r1, z1, b1, f1⟩; have S2 : Hid (CIS w s0 s1 s2 s3 w2) := S1.out.next b1)
      | (go_at_call_of 5 (Sl.a s2); refine (clone_at w _ s2 S2.out.1.bel h2).mono ?_; rintro e w3 ⟨t2, rfl, r2, z2, b2, f2⟩; have S3 : Hid (CIS w s0 s1 s2 s3 w3) := S2.out.next b2)
      | (go_at_call_of 5 (Sl.a s3); refine (clone_at w _ s3 S3.out.1.bel h3).mono ?_; rintro e w4 ⟨t3, rfl, r3, z3, b3, f3⟩; have S4 : Hid (CIS w s0 s1 s2 s3 w4) := S3.out.next b3; obtain ⟨⟨v0, q0⟩, p0⟩ := S4.out.1.r 0 (by omega); obtain ⟨⟨v1, q1⟩, p1⟩ := S4.out.1.r 1 (by omega); obtain ⟨⟨v2, q2⟩, p2⟩ := S4.out.1.r 2 (by omega); obtain ⟨⟨v3, q3⟩, p3⟩ := S4.out.1.r 3 (by omega)))
  have k1 := S1.out.1.sz
  have k2 := S2.out.1.sz
  have k3 := S3.out.1.sz
  have n0 : ∀ x : Addr, t0.a = some x → w.heap.size + 1 < x.block := fun x hx => by have := f0 x hx; simp at this; omega
  have n1 : ∀ x : Addr, t1.a = some x → w.heap.size + 1 < x.block := fun x hx => by have := f1 x hx; omega
  have n2 : ∀ x : Addr, t2.a = some x → w.heap.size + 1 < x.block := fun x hx => by have := f2 x hx; omega
  have n3 : ∀ x : Addr, t3.a = some x → w.heap.size + 1 < x.block := fun x hx => by have := f3 x hx; omega
  have R : Hid (SR w4 t0 ∧ SR w4 t1 ∧ SR w4 t2 ∧ SR w4 t3) := ⟨((r0.below b1).below b2).below b3, (r1.below b2).below b3, r2.below b3, r3⟩
  have NN : Hid ((∀ x : Addr, t0.a = some x → w.heap.size + 1 < x.block) ∧ (∀ x : Addr, t1.a = some x → w.heap.size + 1 < x.block) ∧ (∀ x : Addr, t2.a = some x → w.heap.size + 1 < x.block) ∧ (∀ x : Addr, t3.a = some x → w.heap.size + 1 < x.block)) := ⟨n0, n1, n2, n3⟩
  clear n0 n1 n2 n3 f0 f1 f2 f3 r0 r1 r2 r3 b0 b1 b2 b3
  go_wp2
  refine bodyPost_ret (v := .agg #[.slice t0.a t0.n t0.c, .slice t1.a t1.n t1.c, .slice t2.a t2.n t2.c, .slice t3.a t3.n t3.c]) (by simp [results, Yba.results6, go_sem, q0, q1, q2, q3]) rfl ⟨t0, t1, t2, t3, rfl, ?_, ⟨z0, z1, z2, z3⟩, ?_, ?_⟩
  · exact ⟨R.out.1.set4 NN.out.1 _ _ _ _, R.out.2.1.set4 NN.out.2.1 _ _ _ _, R.out.2.2.1.set4 NN.out.2.2.1 _ _ _ _, R.out.2.2.2.set4 NN.out.2.2.2 _ _ _ _⟩
  · exact ((((S4.out.set 0 _).set 1 _).set 2 _).set 3 _).1.bel
  · exact ⟨fun x hx => by have := NN.out.1 x hx; omega, fun x hx => by have := NN.out.2.1 x hx; omega, fun x hx => by have := NN.out.2.2.1 x hx; omega, fun x hx => by have := NN.out.2.2.2 x hx; omega⟩

end Go.Proofs.Ybulkdneo
