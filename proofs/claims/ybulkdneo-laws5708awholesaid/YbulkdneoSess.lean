/-
  Seat b5708a: samesession (9), startedFrom (8).
-/
import Derived.Test.YbulkdneoClone
namespace Go.Proofs.Ybulkdneo
open Go.RowKit

set_option maxHeartbeats 1000000 in
theorem samesession_yes (w : World) (s0 s1 s2 s3 s4 t0 t1 t2 t3 t4 : Sl) (x y : Bool) (h0 : SR w s0) (h1 : SR w s1) (h2 : SR w s2) (h3 : SR w s3) (h4 : SR w s4) (g0 : SR w t0) (g1 : SR w t1) (g2 : SR w t2) (g3 : SR w t3) (g4 : SR w t4)
    (e0 : s0.z = t0.z) (e1 : s1.z = t1.z) (e2 : s2.z = t2.z) (e3 : s3.z = t3.z) (e4 : s4.z = t4.z) :
    Calls Yba.prog 9 #[.agg #[.slice s0.a s0.n s0.c, .slice s1.a s1.n s1.c, .slice s2.a s2.n s2.c, .slice s3.a s3.n s3.c, .slice s4.a s4.n s4.c, .bool x, .bool y], .agg #[.slice t0.a t0.n t0.c, .slice t1.a t1.n t1.c, .slice t2.a t2.n t2.c, .slice t3.a t3.n t3.c, .slice t4.a t4.n t4.c, .bool x, .bool y]] w
      fun e w' => e = .returned (.bool true) ∧ Below w.heap.size w w' := by
  have hA : Hid (all4 s1 s2 s3 s4 t1 t2 t3 t4 = true) := by show _ = _; simp [all4, eqB, e1, e2, e3, e4]
  have hE : eqB s0.z t0.z = true := by simp [eqB, e0]
  have hx : (x == x) = true := by simp
  have hy : (y == y) = true := by simp
  clear e0 e1 e2 e3 e4
  go_enter Yba.func9, Yba.ntmps9
  go_wp2_with fail
  refine (eq_at w _ s0 t0 ?_ h0 g0).mono ?_
  · repeat (first | exact Below.refl _ _ | refine below_drewN ?_ _ | refine Below.alloc ?_ (by simp) _)
  rintro e w' ⟨rfl, d, rfl⟩
  go_wp2_with fail
  have bb : Below w.heap.size w (((w.alloc (Obj.cells #[.slice s0.a s0.n s0.c, .slice s1.a s1.n s1.c, .slice s2.a s2.n s2.c, .slice s3.a s3.n s3.c, .slice s4.a s4.n s4.c, .bool x, .bool y] 34)).alloc (Obj.cells #[.slice t0.a t0.n t0.c, .slice t1.a t1.n t1.c, .slice t2.a t2.n t2.c, .slice t3.a t3.n t3.c, .slice t4.a t4.n t4.c, .bool x, .bool y] 34)).drewN d) := by
    repeat (first | exact Below.refl _ _ | refine below_drewN ?_ _ | refine Below.alloc ?_ (by simp) _)
  refine (sameinit_any _ s1 s2 s3 s4 t1 t2 t3 t4 (h1.below bb) (h2.below bb) (h3.below bb) (h4.below bb) (g1.below bb) (g2.below bb) (g3.below bb) (g4.below bb)).mono ?_
  rintro e w2 ⟨rfl, hb⟩
  rw [hA.out]
  have c5 : w2.cell? ⟨w.heap.size, 5, none⟩ = some (.bool x) := (hb.cell (p := ⟨w.heap.size, 5, none⟩) (by simp; omega)).trans (by simp [go_sem])
  have c6 : w2.cell? ⟨w.heap.size, 6, none⟩ = some (.bool y) := (hb.cell (p := ⟨w.heap.size, 6, none⟩) (by simp; omega)).trans (by simp [go_sem])
  have d5 : w2.cell? ⟨w.heap.size + 1, 5, none⟩ = some (.bool x) := (hb.cell (p := ⟨w.heap.size + 1, 5, none⟩) (by simp)).trans (by simp [go_sem])
  have d6 : w2.cell? ⟨w.heap.size + 1, 6, none⟩ = some (.bool y) := (hb.cell (p := ⟨w.heap.size + 1, 6, none⟩) (by simp)).trans (by simp [go_sem])
  have B2 : Below w.heap.size w w2 := bb.trans (hb.mono bb.size)
  clear hb bb
  go_wp2
  go_ret
  exact ⟨ret_bool (by simp), B2⟩

/-- The sessions list: n elements of seven cells at block B. -/
structure Sess (w : World) (al : Option Addr) (n : Nat) (T : Nat → Nat → Sl) (X Y : Nat → Bool) : Prop where
  spot : 0 < n → ∃ B, al = some ⟨B, 0, none⟩ ∧ ∀ j, j < n → w.cell? ⟨B, j * 7, none⟩ = some (.slice (T j 0).a (T j 0).n (T j 0).c) ∧ w.cell? ⟨B, j * 7 + 1, none⟩ = some (.slice (T j 1).a (T j 1).n (T j 1).c) ∧
    w.cell? ⟨B, j * 7 + 1 + 1, none⟩ = some (.slice (T j 2).a (T j 2).n (T j 2).c) ∧ w.cell? ⟨B, j * 7 + 1 + 1 + 1, none⟩ = some (.slice (T j 3).a (T j 3).n (T j 3).c) ∧ w.cell? ⟨B, j * 7 + 1 + 1 + 1 + 1, none⟩ = some (.slice (T j 4).a (T j 4).n (T j 4).c) ∧
    w.cell? ⟨B, j * 7 + 1 + 1 + 1 + 1 + 1, none⟩ = some (.bool (X j)) ∧ w.cell? ⟨B, j * 7 + 1 + 1 + 1 + 1 + 1 + 1, none⟩ = some (.bool (Y j))
  row : ∀ j, j < n → ∀ i, i < 5 → SR w (T j i)

theorem Sess.below {w w' : World} {al : Option Addr} {n : Nat} {T : Nat → Nat → Sl} {X Y : Nat → Bool} (h : Sess w al n T X Y) (hb : Below w.heap.size w w') : Sess w' al n T X Y := by
  refine ⟨fun hn => ?_, fun j hj i hi => (h.row j hj i hi).below hb⟩
  obtain ⟨B, e, hc⟩ := h.spot hn
  refine ⟨B, e, fun j hj => ?_⟩
  obtain ⟨c0, c1, c2, c3, c4, c5, c6⟩ := hc j hj
  exact ⟨(hb.cell (cell_lt c0)).trans c0, (hb.cell (cell_lt c1)).trans c1, (hb.cell (cell_lt c2)).trans c2, (hb.cell (cell_lt c3)).trans c3, (hb.cell (cell_lt c4)).trans c4, (hb.cell (cell_lt c5)).trans c5, (hb.cell (cell_lt c6)).trans c6⟩

/-- r is the least place below n at which p holds, or -1. -/
def FirstB (n : Nat) (p : Nat → Bool) (r : Int) : Prop :=
  (r = -1 ∧ ∀ j, j < n → p j = false) ∨ ∃ k : Nat, k < n ∧ r = k ∧ p k = true ∧ ∀ j, j < k → p j = false

theorem FirstB.same {n : Nat} {p : Nat → Bool} {r s : Int} (h : FirstB n p r) (g : FirstB n p s) : r = s := by
  rcases h with ⟨h1, h2⟩ | ⟨k, hk, h1, h2, h3⟩
  · rcases g with ⟨g1, _⟩ | ⟨k', hk', g1, g2, g3⟩
    · rw [h1, g1]
    · have := h2 k' hk'; rw [g2] at this; cases this
  · rcases g with ⟨g1, g2⟩ | ⟨k', hk', g1, g2, g3⟩
    · have := g2 k hk; rw [h2] at this; cases this
    · rcases Nat.lt_trichotomy k k' with hlt | rfl | hlt
      · have := g3 k hlt; rw [h2] at this; cases this
      · rw [h1, g1]
      · have := h3 k' hlt; rw [g2] at this; cases this

/-- Session j was started, as responder, from the four byte strings t0 .. t3. -/
def startB (T : Nat → Nat → Sl) (X : Nat → Bool) (t0 t1 t2 t3 : Sl) (j : Nat) : Bool := !X j && all4 (T j 1) (T j 2) (T j 3) (T j 4) t0 t1 t2 t3

set_option maxHeartbeats 1000000 in
theorem started_any (w : World) (al : Option Addr) (n c : Nat) (T : Nat → Nat → Sl) (X Y : Nat → Bool) (t0 t1 t2 t3 : Sl) (hs : Sess w al n T X Y) (hn : n ≤ 1048576) (g0 : SR w t0) (g1 : SR w t1) (g2 : SR w t2) (g3 : SR w t3) :
    Calls Yba.prog 8 #[.slice al n c, .agg #[.slice t0.a t0.n t0.c, .slice t1.a t1.n t1.c, .slice t2.a t2.n t2.c, .slice t3.a t3.n t3.c]] w
      fun e w' => ∃ r : Int, e = .returned (.int .i64 r) ∧ FirstB n (startB T X t0 t1 t2 t3) r ∧ Below w.heap.size w w' := by
  have bb := (Below.refl w.heap.size w).alloc (Nat.le_refl _) (Obj.cells #[.slice t0.a t0.n t0.c, .slice t1.a t1.n t1.c, .slice t2.a t2.n t2.c, .slice t3.a t3.n t3.c] 29)
  have hs1 := hs.below bb
  have k0 := g0.below bb
  have k1 := g1.below bb
  have k2 := g2.below bb
  have k3 := g3.below bb
  go_enter Yba.func8, Yba.ntmps8
  go_wp2
  obtain ⟨w1, hw1⟩ : ∃ w1, w1 = w.alloc (Obj.cells #[.slice t0.a t0.n t0.c, .slice t1.a t1.n t1.c, .slice t2.a t2.n t2.c, .slice t3.a t3.n t3.c] 29) := ⟨_, rfl⟩
  have q0 : w1.cell? ⟨w.heap.size, 0, none⟩ = some (.slice t0.a t0.n t0.c) := by rw [hw1]; simp [go_sem]
  have q1 : w1.cell? ⟨w.heap.size, 1, none⟩ = some (.slice t1.a t1.n t1.c) := by rw [hw1]; simp [go_sem]
  have q2 : w1.cell? ⟨w.heap.size, 2, none⟩ = some (.slice t2.a t2.n t2.c) := by rw [hw1]; simp [go_sem]
  have q3 : w1.cell? ⟨w.heap.size, 3, none⟩ = some (.slice t3.a t3.n t3.c) := by rw [hw1]; simp [go_sem]
  rw [← hw1] at hs1 k0 k1 k2 k3 bb ⊢
  clear hw1 hs g0 g1 g2 g3
  go_loopw [9] (fun i wr => ∃ k : Nat, k ≤ n ∧ i = .int .i64 k ∧ Hid (∀ j, j < k → startB T X t0 t1 t2 t3 j = false) ∧ Below w1.heap.size w1 wr) (fun i _ => n - (intOf i).toNat)
  case atStart => exact ⟨0, Nat.zero_le _, rfl, fun j hj => by omega, Below.refl _ _⟩
  case round =>
    obtain ⟨k, hkn, rfl, hno, hb⟩ := hrel
    by_cases hlt : k < n
    · have hsr := hs1.below hb
      obtain ⟨B, rfl, hc⟩ := hsr.spot (by omega)
      obtain ⟨c0, c1, c2, c3, c4, c5, c6⟩ := hc k hlt
      have p0 := (hb.cell (cell_lt q0)).trans q0
      have p1 := (hb.cell (cell_lt q1)).trans q1
      have p2 := (hb.cell (cell_lt q2)).trans q2
      have p3 := (hb.cell (cell_lt q3)).trans q3
      have hbx : ∀ o, Below wr.heap.size wr (wr.alloc o) := fun o => (Below.refl wr.heap.size wr).alloc (Nat.le_refl _) o
      have r1 := hsr.row k hlt 1 (by omega)
      have r2 := hsr.row k hlt 2 (by omega)
      have r3 := hsr.row k hlt 3 (by omega)
      have r4 := hsr.row k hlt 4 (by omega)
      have l0 := k0.below hb
      have l1 := k1.below hb
      have l2 := k2.below hb
      have l3 := k3.below hb
      have hm : w.heap.size < wr.heap.size := cell_lt p0
      obtain ⟨xb, hxb⟩ : ∃ xb, xb = X k := ⟨_, rfl⟩
      rw [← hxb] at c5
      have HX : Hid (xb = X k) := hxb
      obtain ⟨m, hm4⟩ : ∃ m, m = all4 (T k 1) (T k 2) (T k 3) (T k 4) t0 t1 t2 t3 := ⟨_, rfl⟩
      have HM : Hid (m = all4 (T k 1) (T k 2) (T k 3) (T k 4) t0 t1 t2 t3) := hm4
      clear hc hsr q0 q1 q2 q3 k0 k1 k2 k3 hs1 hxb hm4
      cases xb with
      | true =>
        go_wp2
        go_roundw
        case rel =>
          refine ⟨k + 1, by omega, by go_num, fun j hj => ?_, hb.alloc hb.size _⟩
          rcases Nat.lt_succ_iff_lt_or_eq.1 hj with h1 | rfl
          · exact hno.out j h1
          · simp [startB, ← HX.out]
        case measure => simp [intOf]; omega
      | false =>
        cases m with
        | true =>
          go_wp2_with fail
          refine (initEqual_any _ _ _ _ _ _ _ _ _ (r1.below (hbx _)) (r2.below (hbx _)) (r3.below (hbx _)) (r4.below (hbx _)) (l0.below (hbx _)) (l1.below (hbx _)) (l2.below (hbx _)) (l3.below (hbx _))).mono ?_
          rintro e w2 ⟨rfl, hb2⟩
          rw [← HM.out]
          have hB2 : Below w1.heap.size w1 w2 := (hb.alloc hb.size _).trans (hb2.mono (by have := hb.size; simp; omega))
          clear hb2
          go_wp2
          go_ret
          refine ⟨k, rfl, .inr ⟨k, hlt, rfl, ?_, hno.out⟩, bb.trans (hB2.mono bb.size)⟩
          simp [startB, ← HX.out, ← HM.out]
        | false =>
          go_wp2_with fail
          refine (initEqual_any _ _ _ _ _ _ _ _ _ (r1.below (hbx _)) (r2.below (hbx _)) (r3.below (hbx _)) (r4.below (hbx _)) (l0.below (hbx _)) (l1.below (hbx _)) (l2.below (hbx _)) (l3.below (hbx _))).mono ?_
          rintro e w2 ⟨rfl, hb2⟩
          rw [← HM.out]
          have hB2 : Below w1.heap.size w1 w2 := (hb.alloc hb.size _).trans (hb2.mono (by have := hb.size; simp; omega))
          clear hb2
          go_wp2
          go_roundw
          case rel =>
            refine ⟨k + 1, by omega, by go_num, fun j hj => ?_, hB2⟩
            rcases Nat.lt_succ_iff_lt_or_eq.1 hj with h1 | rfl
            · exact hno.out j h1
            · simp [startB, ← HM.out]
          case measure => simp [intOf]; omega
    · obtain rfl : k = n := by omega
      go_wp2
      go_ret
      exact ⟨-1, rfl, .inl ⟨rfl, hno.out⟩, bb.trans (hb.mono bb.size)⟩

end Go.Proofs.Ybulkdneo
