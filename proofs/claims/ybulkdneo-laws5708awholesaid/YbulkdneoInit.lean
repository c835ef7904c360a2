/-
  Seat b5708a: the callees of law A over envelope.Init: cloneinit (6), sameinit (10), Equal (14).
-/
import Derived.Test.YbulkdneoBase
import Derived.Deep.RegionHeld3
namespace Go.Proofs.Ybulkdneo
open Go.RowKit

/-- A byte slice, with its bytes. -/
structure Sl where
  a : Option Addr
  n : Nat
  c : Nat
  z : List Int

def SR (w : World) (s : Sl) : Prop := Row w s.a s.n s.c s.z ∧ s.n ≤ 1048576
theorem SR.below {w w' : World} {s : Sl} (h : SR w s) (hb : Below w.heap.size w w') : SR w' s := ⟨h.1.below hb, h.2⟩
/-- It lies in memory that w does not have. -/
def Fresh (w : World) (s : Sl) : Prop := ∀ x : Addr, s.a = some x → w.heap.size ≤ x.block
theorem Fresh.old {w w' : World} {s : Sl} (h : Fresh w' s) (hs : w.heap.size ≤ w'.heap.size) : Fresh w s := fun x hx => Nat.le_trans hs (h x hx)

theorem clone_at (w0 w : World) (s : Sl) (hb : Below w0.heap.size w0 w) (h : SR w0 s) :
    Calls Yba.prog 5 #[.slice s.a s.n s.c] w fun e w' => ∃ t : Sl, e = .returned (.slice t.a t.n t.c) ∧ SR w' t ∧ t.z = s.z ∧ Below w.heap.size w w' ∧ Fresh w t := by
  have h2 := h.2
  refine (clonea_any w s.a s.n s.c s.z (h.1.below hb) (by omega)).mono ?_
  rintro e w' ⟨ao, c', rfl, hr, _, hb', hf⟩
  exact ⟨⟨ao, s.n, c', s.z⟩, rfl, ⟨hr, h2⟩, rfl, hb', hf⟩

theorem eq_at (w0 w : World) (s t : Sl) (hb : Below w0.heap.size w0 w) (h : SR w0 s) (h' : SR w0 t) :
    Calls Yba.prog 7 #[.slice s.a s.n s.c, .slice t.a t.n t.c] w fun e w' => e = .returned (.bool (eqB s.z t.z)) ∧ ∃ k, w' = w.drewN k := by
  have h2 := h.2
  have h3 := h'.2
  exact eqa_any w s.a t.a s.n s.c t.n t.c s.z t.z (h.1.below hb) (h'.1.below hb) (by omega) (by omega)

theorem equal_at (w0 w : World) (s t : Sl) (hb : Below w0.heap.size w0 w) (h : SR w0 s) (h' : SR w0 t) :
    Calls Yba.prog 15 #[.slice s.a s.n s.c, .slice t.a t.n t.c] w fun e w' => e = .returned (.bool (eqB s.z t.z)) ∧ w' = w :=
  equal_any w s.a t.a s.n s.c t.n t.c s.z t.z (h.1.below hb) (h'.1.below hb)

/-- Four pairs of byte strings, compared. -/
def all4 (s0 s1 s2 s3 t0 t1 t2 t3 : Sl) : Bool := eqB s0.z t0.z && eqB s1.z t1.z && eqB s2.z t2.z && eqB s3.z t3.z

set_option maxHeartbeats 1000000 in
theorem sameinit_any (w : World) (s0 s1 s2 s3 t0 t1 t2 t3 : Sl) (h0 : SR w s0) (h1 : SR w s1) (h2 : SR w s2) (h3 : SR w s3) (g0 : SR w t0) (g1 : SR w t1) (g2 : SR w t2) (g3 : SR w t3) :
    Calls Yba.prog 10 #[.agg #[.slice s0.a s0.n s0.c, .slice s1.a s1.n s1.c, .slice s2.a s2.n s2.c, .slice s3.a s3.n s3.c], .agg #[.slice t0.a t0.n t0.c, .slice t1.a t1.n t1.c, .slice t2.a t2.n t2.c, .slice t3.a t3.n t3.c]] w
      fun e w' => e = .returned (.bool (all4 s0 s1 s2 s3 t0 t1 t2 t3)) ∧ Below w.heap.size w w' := by
  cases e0 : eqB s0.z t0.z with
  | false =>
    have hA : Hid (false = all4 s0 s1 s2 s3 t0 t1 t2 t3) := by show _ = _; simp [all4, e0]
    go_enter Yba.func10, Yba.ntmps10
    go_wp2_with fail
    refine (eq_at w _ s0 t0 ?_ h0 g0).mono ?_
    · repeat (first | exact Below.refl _ _ | refine below_drewN ?_ _ | refine Below.alloc ?_ (by simp) _)
    rintro e w' ⟨rfl, d, rfl⟩
    go_wp2_with fail
    go_ret
    refine ⟨ret_bool hA.out, ?_⟩
    repeat (first | exact Below.refl _ _ | refine below_drewN ?_ _ | refine Below.alloc ?_ (by simp) _)
  | true =>
    cases e1 : eqB s1.z t1.z with
    | false =>
      have hA : Hid (false = all4 s0 s1 s2 s3 t0 t1 t2 t3) := by show _ = _; simp [all4, e0, e1]
      go_enter Yba.func10, Yba.ntmps10
      go_wp2_with fail
      refine (eq_at w _ s0 t0 ?_ h0 g0).mono ?_
      · repeat (first | exact Below.refl _ _ | refine below_drewN ?_ _ | refine Below.alloc ?_ (by simp) _)
      rintro e w' ⟨rfl, d, rfl⟩
      go_wp2_with fail
      refine (eq_at w _ s1 t1 ?_ h1 g1).mono ?_
      · repeat (first | exact Below.refl _ _ | refine below_drewN ?_ _ | refine Below.alloc ?_ (by simp) _)
      rintro e w' ⟨rfl, d, rfl⟩
      go_wp2_with fail
      go_ret
      refine ⟨ret_bool hA.out, ?_⟩
      repeat (first | exact Below.refl _ _ | refine below_drewN ?_ _ | refine Below.alloc ?_ (by simp) _)
    | true =>
      cases e2 : eqB s2.z t2.z with
      | false =>
        have hA : Hid (false = all4 s0 s1 s2 s3 t0 t1 t2 t3) := by show _ = _; simp [all4, e0, e1, e2]
        go_enter Yba.func10, Yba.ntmps10
        go_wp2_with fail
        refine (eq_at w _ s0 t0 ?_ h0 g0).mono ?_
        · repeat (first | exact Below.refl _ _ | refine below_drewN ?_ _ | refine Below.alloc ?_ (by simp) _)
        rintro e w' ⟨rfl, d, rfl⟩
        go_wp2_with fail
        refine (eq_at w _ s1 t1 ?_ h1 g1).mono ?_
        · repeat (first | exact Below.refl _ _ | refine below_drewN ?_ _ | refine Below.alloc ?_ (by simp) _)
        rintro e w' ⟨rfl, d, rfl⟩
        go_wp2_with fail
        refine (eq_at w _ s2 t2 ?_ h2 g2).mono ?_
        · repeat (first | exact Below.refl _ _ | refine below_drewN ?_ _ | refine Below.alloc ?_ (by simp) _)
        rintro e w' ⟨rfl, d, rfl⟩
        go_wp2_with fail
        go_ret
        refine ⟨ret_bool hA.out, ?_⟩
        repeat (first | exact Below.refl _ _ | refine below_drewN ?_ _ | refine Below.alloc ?_ (by simp) _)
      | true =>
        cases e3 : eqB s3.z t3.z with
        | false =>
          have hA : Hid (false = all4 s0 s1 s2 s3 t0 t1 t2 t3) := by show _ = _; simp [all4, e0, e1, e2, e3]
          go_enter Yba.func10, Yba.ntmps10
          go_wp2_with fail
          refine (eq_at w _ s0 t0 ?_ h0 g0).mono ?_
          · repeat (first | exact Below.refl _ _ | refine below_drewN ?_ _ | refine Below.alloc ?_ (by simp) _)
          rintro e w' ⟨rfl, d, rfl⟩
          go_wp2_with fail
          refine (eq_at w _ s1 t1 ?_ h1 g1).mono ?_
          · repeat (first | exact Below.refl _ _ | refine below_drewN ?_ _ | refine Below.alloc ?_ (by simp) _)
          rintro e w' ⟨rfl, d, rfl⟩
          go_wp2_with fail
          refine (eq_at w _ s2 t2 ?_ h2 g2).mono ?_
          · repeat (first | exact Below.refl _ _ | refine below_drewN ?_ _ | refine Below.alloc ?_ (by simp) _)
          rintro e w' ⟨rfl, d, rfl⟩
          go_wp2_with fail
          refine (eq_at w _ s3 t3 ?_ h3 g3).mono ?_
          · repeat (first | exact Below.refl _ _ | refine below_drewN ?_ _ | refine Below.alloc ?_ (by simp) _)
          rintro e w' ⟨rfl, d, rfl⟩
          go_wp2_with fail
          go_ret
          refine ⟨ret_bool hA.out, ?_⟩
          repeat (first | exact Below.refl _ _ | refine below_drewN ?_ _ | refine Below.alloc ?_ (by simp) _)
        | true =>
          have hA : Hid (true = all4 s0 s1 s2 s3 t0 t1 t2 t3) := by show _ = _; simp [all4, e0, e1, e2, e3]
          go_enter Yba.func10, Yba.ntmps10
          go_wp2_with fail
          refine (eq_at w _ s0 t0 ?_ h0 g0).mono ?_
          · repeat (first | exact Below.refl _ _ | refine below_drewN ?_ _ | refine Below.alloc ?_ (by simp) _)
          rintro e w' ⟨rfl, d, rfl⟩
          go_wp2_with fail
          refine (eq_at w _ s1 t1 ?_ h1 g1).mono ?_
          · repeat (first | exact Below.refl _ _ | refine below_drewN ?_ _ | refine Below.alloc ?_ (by simp) _)
          rintro e w' ⟨rfl, d, rfl⟩
          go_wp2_with fail
          refine (eq_at w _ s2 t2 ?_ h2 g2).mono ?_
          · repeat (first | exact Below.refl _ _ | refine below_drewN ?_ _ | refine Below.alloc ?_ (by simp) _)
          rintro e w' ⟨rfl, d, rfl⟩
          go_wp2_with fail
          refine (eq_at w _ s3 t3 ?_ h3 g3).mono ?_
          · repeat (first | exact Below.refl _ _ | refine below_drewN ?_ _ | refine Below.alloc ?_ (by simp) _)
          rintro e w' ⟨rfl, d, rfl⟩
          go_wp2_with fail
          go_ret
          refine ⟨ret_bool hA.out, ?_⟩
          repeat (first | exact Below.refl _ _ | refine below_drewN ?_ _ | refine Below.alloc ?_ (by simp) _)

set_option maxHeartbeats 1000000 in
theorem initEqual_any (w : World) (s0 s1 s2 s3 t0 t1 t2 t3 : Sl) (h0 : SR w s0) (h1 : SR w s1) (h2 : SR w s2) (h3 : SR w s3) (g0 : SR w t0) (g1 : SR w t1) (g2 : SR w t2) (g3 : SR w t3) :
    Calls Yba.prog 14 #[.agg #[.slice s0.a s0.n s0.c, .slice s1.a s1.n s1.c, .slice s2.a s2.n s2.c, .slice s3.a s3.n s3.c], .agg #[.slice t0.a t0.n t0.c, .slice t1.a t1.n t1.c, .slice t2.a t2.n t2.c, .slice t3.a t3.n t3.c]] w
      fun e w' => e = .returned (.bool (all4 s0 s1 s2 s3 t0 t1 t2 t3)) ∧ Below w.heap.size w w' := by
  cases e0 : eqB s0.z t0.z with
  | false =>
    have hA : Hid (false = all4 s0 s1 s2 s3 t0 t1 t2 t3) := by show _ = _; simp [all4, e0]
    go_enter Yba.func14, Yba.ntmps14
    go_wp2_with fail
    refine (equal_at w _ s0 t0 ?_ h0 g0).mono ?_
    · repeat (first | exact Below.refl _ _ | refine below_drewN ?_ _ | refine Below.alloc ?_ (by simp) _)
    rintro e w' ⟨rfl, rfl⟩
    go_wp2_with fail
    go_ret
    refine ⟨ret_bool hA.out, ?_⟩
    repeat (first | exact Below.refl _ _ | refine below_drewN ?_ _ | refine Below.alloc ?_ (by simp) _)
  | true =>
    cases e1 : eqB s1.z t1.z with
    | false =>
      have hA : Hid (false = all4 s0 s1 s2 s3 t0 t1 t2 t3) := by show _ = _; simp [all4, e0, e1]
      go_enter Yba.func14, Yba.ntmps14
      go_wp2_with fail
      refine (equal_at w _ s0 t0 ?_ h0 g0).mono ?_
      · repeat (first | exact Below.refl _ _ | refine below_drewN ?_ _ | refine Below.alloc ?_ (by simp) _)
      rintro e w' ⟨rfl, rfl⟩
      go_wp2_with fail
      refine (equal_at w _ s1 t1 ?_ h1 g1).mono ?_
      · repeat (first | exact Below.refl _ _ | refine below_drewN ?_ _ | refine Below.alloc ?_ (by simp) _)
      rintro e w' ⟨rfl, rfl⟩
      go_wp2_with fail
      go_ret
      refine ⟨ret_bool hA.out, ?_⟩
      repeat (first | exact Below.refl _ _ | refine below_drewN ?_ _ | refine Below.alloc ?_ (by simp) _)
    | true =>
      cases e2 : eqB s2.z t2.z with
      | false =>
        have hA : Hid (false = all4 s0 s1 s2 s3 t0 t1 t2 t3) := by show _ = _; simp [all4, e0, e1, e2]
        go_enter Yba.func14, Yba.ntmps14
        go_wp2_with fail
        refine (equal_at w _ s0 t0 ?_ h0 g0).mono ?_
        · repeat (first | exact Below.refl _ _ | refine below_drewN ?_ _ | refine Below.alloc ?_ (by simp) _)
        rintro e w' ⟨rfl, rfl⟩
        go_wp2_with fail
        refine (equal_at w _ s1 t1 ?_ h1 g1).mono ?_
        · repeat (first | exact Below.refl _ _ | refine below_drewN ?_ _ | refine Below.alloc ?_ (by simp) _)
        rintro e w' ⟨rfl, rfl⟩
        go_wp2_with fail
        refine (equal_at w _ s2 t2 ?_ h2 g2).mono ?_
        · repeat (first | exact Below.refl _ _ | refine below_drewN ?_ _ | refine Below.alloc ?_ (by simp) _)
        rintro e w' ⟨rfl, rfl⟩
        go_wp2_with fail
        go_ret
        refine ⟨ret_bool hA.out, ?_⟩
        repeat (first | exact Below.refl _ _ | refine below_drewN ?_ _ | refine Below.alloc ?_ (by simp) _)
      | true =>
        cases e3 : eqB s3.z t3.z with
        | false =>
          have hA : Hid (false = all4 s0 s1 s2 s3 t0 t1 t2 t3) := by show _ = _; simp [all4, e0, e1, e2, e3]
          go_enter Yba.func14, Yba.ntmps14
          go_wp2_with fail
          refine (equal_at w _ s0 t0 ?_ h0 g0).mono ?_
          · repeat (first | exact Below.refl _ _ | refine below_drewN ?_ _ | refine Below.alloc ?_ (by simp) _)
          rintro e w' ⟨rfl, rfl⟩
          go_wp2_with fail
          refine (equal_at w _ s1 t1 ?_ h1 g1).mono ?_
          · repeat (first | exact Below.refl _ _ | refine below_drewN ?_ _ | refine Below.alloc ?_ (by simp) _)
          rintro e w' ⟨rfl, rfl⟩
          go_wp2_with fail
          refine (equal_at w _ s2 t2 ?_ h2 g2).mono ?_
          · repeat (first | exact Below.refl _ _ | refine below_drewN ?_ _ | refine Below.alloc ?_ (by simp) _)
          rintro e w' ⟨rfl, rfl⟩
          go_wp2_with fail
          refine (equal_at w _ s3 t3 ?_ h3 g3).mono ?_
          · repeat (first | exact Below.refl _ _ | refine below_drewN ?_ _ | refine Below.alloc ?_ (by simp) _)
          rintro e w' ⟨rfl, rfl⟩
          go_wp2_with fail
          go_ret
          refine ⟨ret_bool hA.out, ?_⟩
          repeat (first | exact Below.refl _ _ | refine below_drewN ?_ _ | refine Below.alloc ?_ (by simp) _)
        | true =>
          have hA : Hid (true = all4 s0 s1 s2 s3 t0 t1 t2 t3) := by show _ = _; simp [all4, e0, e1, e2, e3]
          go_enter Yba.func14, Yba.ntmps14
          go_wp2_with fail
          refine (equal_at w _ s0 t0 ?_ h0 g0).mono ?_
          · repeat (first | exact Below.refl _ _ | refine below_drewN ?_ _ | refine Below.alloc ?_ (by simp) _)
          rintro e w' ⟨rfl, rfl⟩
          go_wp2_with fail
          refine (equal_at w _ s1 t1 ?_ h1 g1).mono ?_
          · repeat (first | exact Below.refl _ _ | refine below_drewN ?_ _ | refine Below.alloc ?_ (by simp) _)
          rintro e w' ⟨rfl, rfl⟩
          go_wp2_with fail
          refine (equal_at w _ s2 t2 ?_ h2 g2).mono ?_
          · repeat (first | exact Below.refl _ _ | refine below_drewN ?_ _ | refine Below.alloc ?_ (by simp) _)
          rintro e w' ⟨rfl, rfl⟩
          go_wp2_with fail
          refine (equal_at w _ s3 t3 ?_ h3 g3).mono ?_
          · repeat (first | exact Below.refl _ _ | refine below_drewN ?_ _ | refine Below.alloc ?_ (by simp) _)
          rintro e w' ⟨rfl, rfl⟩
          go_wp2_with fail
          go_ret
          refine ⟨ret_bool hA.out, ?_⟩
          repeat (first | exact Below.refl _ _ | refine below_drewN ?_ _ | refine Below.alloc ?_ (by simp) _)

end Go.Proofs.Ybulkdneo
