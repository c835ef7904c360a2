/-
  Seat b5709a: before (20), due (40), less (10), want (5).
-/
import Derived.Test.YbulkdnfcMem
namespace Go.Proofs.Ybulkdnfc
open Go.RowKit
set_option linter.unusedVariables false

set_option maxHeartbeats 1000000 in
theorem before_lt (w : World) (b o b' o' : Nat) (a a' r r' : Int) (h0 : -128 ≤ a) (h1 : a ≤ 127) (h2 : -128 ≤ a') (h3 : a' ≤ 127) (c : a < a')
    (e0 : w.cell? ⟨b, o, none⟩ = some (.int .u64 (wall a))) (e1 : w.cell? ⟨b, o + 1, none⟩ = some (.int .i64 (ext a))) (e2 : w.cell? ⟨b, o + 1 + 1, none⟩ = some (.pointer none)) (e3 : w.cell? ⟨b, o + 3, none⟩ = some (.int .u64 r))
    (g0 : w.cell? ⟨b', o', none⟩ = some (.int .u64 (wall a'))) (g1 : w.cell? ⟨b', o' + 1, none⟩ = some (.int .i64 (ext a'))) (g2 : w.cell? ⟨b', o' + 1 + 1, none⟩ = some (.pointer none)) (g3 : w.cell? ⟨b', o' + 3, none⟩ = some (.int .u64 r')) :
    Calls Yba.prog 20 #[.pointer (some ⟨b, o, none⟩), .pointer (some ⟨b', o', none⟩)] w fun e w' => e = .returned (.bool true) ∧ Below w.heap.size w w' := by
  have HC : Hid (cmp3 a a' = -1) := by show _ = _; rw [cmp3, if_pos c]
  have hne : ((-1 : Int) != 0) = true := by decide
  have S0c : Hid (w.drew.cell? ⟨b, o, none⟩ = some (.int .u64 (wall a)) ∧ w.drew.cell? ⟨b, o + 1, none⟩ = some (.int .i64 (ext a)) ∧ w.drew.cell? ⟨b, o + 1 + 1, none⟩ = some (.pointer none) ∧ w.drew.cell? ⟨b', o', none⟩ = some (.int .u64 (wall a')) ∧ w.drew.cell? ⟨b', o' + 1, none⟩ = some (.int .i64 (ext a')) ∧ w.drew.cell? ⟨b', o' + 1 + 1, none⟩ = some (.pointer none)) := by
    simp only [World.cell?_drew]
    exact ⟨e0, e1, e2, g0, g1, g2⟩
  go_enter Yba.func20, Yba.ntmps20
  go_wp2
  go_region_held3 (fun w' => w'.cell? ⟨b, o, none⟩ = some (.int .u64 (wall a)) ∧ w'.cell? ⟨b, o + 1, none⟩ = some (.int .i64 (ext a)) ∧ w'.cell? ⟨b, o + 1 + 1, none⟩ = some (.pointer none) ∧ w'.cell? ⟨b', o', none⟩ = some (.int .u64 (wall a')) ∧ w'.cell? ⟨b', o' + 1, none⟩ = some (.int .i64 (ext a')) ∧ w'.cell? ⟨b', o' + 1 + 1, none⟩ = some (.pointer none))
    (first | with_reducible exact S0c.out | with_reducible exact S1c.out)
    (first
      | (go_at_call 24; refine (compare_any _ a a' h0 h1 h2 h3).mono ?_; rintro e w1 ⟨rfl, b1⟩; have B1 : Below w.heap.size w w1 := (Below.refl w.heap.size w).drew.trans b1; rw [HC.out]; have S1c : Hid (w1.cell? ⟨b, o, none⟩ = some (.int .u64 (wall a)) ∧ w1.cell? ⟨b, o + 1, none⟩ = some (.int .i64 (ext a)) ∧ w1.cell? ⟨b, o + 1 + 1, none⟩ = some (.pointer none) ∧ w1.cell? ⟨b', o', none⟩ = some (.int .u64 (wall a')) ∧ w1.cell? ⟨b', o' + 1, none⟩ = some (.int .i64 (ext a')) ∧ w1.cell? ⟨b', o' + 1 + 1, none⟩ = some (.pointer none)) := ⟨(B1.cell (cell_lt e0)).trans e0, (B1.cell (cell_lt e1)).trans e1, (B1.cell (cell_lt e2)).trans e2, (B1.cell (cell_lt g0)).trans g0, (B1.cell (cell_lt g1)).trans g1, (B1.cell (cell_lt g2)).trans g2⟩))
  clear S0c S1c
  go_wp2
  go_ret
  exact ⟨ret_bool (by simp), B1⟩

set_option maxHeartbeats 1000000 in
theorem before_gt (w : World) (b o b' o' : Nat) (a a' r r' : Int) (h0 : -128 ≤ a) (h1 : a ≤ 127) (h2 : -128 ≤ a') (h3 : a' ≤ 127) (c : a' < a)
    (e0 : w.cell? ⟨b, o, none⟩ = some (.int .u64 (wall a))) (e1 : w.cell? ⟨b, o + 1, none⟩ = some (.int .i64 (ext a))) (e2 : w.cell? ⟨b, o + 1 + 1, none⟩ = some (.pointer none)) (e3 : w.cell? ⟨b, o + 3, none⟩ = some (.int .u64 r))
    (g0 : w.cell? ⟨b', o', none⟩ = some (.int .u64 (wall a'))) (g1 : w.cell? ⟨b', o' + 1, none⟩ = some (.int .i64 (ext a'))) (g2 : w.cell? ⟨b', o' + 1 + 1, none⟩ = some (.pointer none)) (g3 : w.cell? ⟨b', o' + 3, none⟩ = some (.int .u64 r')) :
    Calls Yba.prog 20 #[.pointer (some ⟨b, o, none⟩), .pointer (some ⟨b', o', none⟩)] w fun e w' => e = .returned (.bool false) ∧ Below w.heap.size w w' := by
  have HC : Hid (cmp3 a a' = 1) := by show _ = _; rw [cmp3, if_neg (by omega), if_pos c]
  have hne : ((1 : Int) != 0) = true := by decide
  have S0c : Hid (w.drew.cell? ⟨b, o, none⟩ = some (.int .u64 (wall a)) ∧ w.drew.cell? ⟨b, o + 1, none⟩ = some (.int .i64 (ext a)) ∧ w.drew.cell? ⟨b, o + 1 + 1, none⟩ = some (.pointer none) ∧ w.drew.cell? ⟨b', o', none⟩ = some (.int .u64 (wall a')) ∧ w.drew.cell? ⟨b', o' + 1, none⟩ = some (.int .i64 (ext a')) ∧ w.drew.cell? ⟨b', o' + 1 + 1, none⟩ = some (.pointer none)) := by
    simp only [World.cell?_drew]
    exact ⟨e0, e1, e2, g0, g1, g2⟩
  go_enter Yba.func20, Yba.ntmps20
  go_wp2
  go_region_held3 (fun w' => w'.cell? ⟨b, o, none⟩ = some (.int .u64 (wall a)) ∧ w'.cell? ⟨b, o + 1, none⟩ = some (.int .i64 (ext a)) ∧ w'.cell? ⟨b, o + 1 + 1, none⟩ = some (.pointer none) ∧ w'.cell? ⟨b', o', none⟩ = some (.int .u64 (wall a')) ∧ w'.cell? ⟨b', o' + 1, none⟩ = some (.int .i64 (ext a')) ∧ w'.cell? ⟨b', o' + 1 + 1, none⟩ = some (.pointer none))
    (first | with_reducible exact S0c.out | with_reducible exact S1c.out)
    (first
      | (go_at_call 24; refine (compare_any _ a a' h0 h1 h2 h3).mono ?_; rintro e w1 ⟨rfl, b1⟩; have B1 : Below w.heap.size w w1 := (Below.refl w.heap.size w).drew.trans b1; rw [HC.out]; have S1c : Hid (w1.cell? ⟨b, o, none⟩ = some (.int .u64 (wall a)) ∧ w1.cell? ⟨b, o + 1, none⟩ = some (.int .i64 (ext a)) ∧ w1.cell? ⟨b, o + 1 + 1, none⟩ = some (.pointer none) ∧ w1.cell? ⟨b', o', none⟩ = some (.int .u64 (wall a')) ∧ w1.cell? ⟨b', o' + 1, none⟩ = some (.int .i64 (ext a')) ∧ w1.cell? ⟨b', o' + 1 + 1, none⟩ = some (.pointer none)) := ⟨(B1.cell (cell_lt e0)).trans e0, (B1.cell (cell_lt e1)).trans e1, (B1.cell (cell_lt e2)).trans e2, (B1.cell (cell_lt g0)).trans g0, (B1.cell (cell_lt g1)).trans g1, (B1.cell (cell_lt g2)).trans g2⟩))
  clear S0c S1c
  go_wp2
  go_ret
  exact ⟨ret_bool (by simp), B1⟩

set_option maxHeartbeats 1000000 in
theorem before_eq (w : World) (b o b' o' : Nat) (a a' r r' : Int) (h0 : -128 ≤ a) (h1 : a ≤ 127) (h2 : -128 ≤ a') (h3 : a' ≤ 127) (c : a = a')
    (e0 : w.cell? ⟨b, o, none⟩ = some (.int .u64 (wall a))) (e1 : w.cell? ⟨b, o + 1, none⟩ = some (.int .i64 (ext a))) (e2 : w.cell? ⟨b, o + 1 + 1, none⟩ = some (.pointer none)) (e3 : w.cell? ⟨b, o + 3, none⟩ = some (.int .u64 r))
    (g0 : w.cell? ⟨b', o', none⟩ = some (.int .u64 (wall a'))) (g1 : w.cell? ⟨b', o' + 1, none⟩ = some (.int .i64 (ext a'))) (g2 : w.cell? ⟨b', o' + 1 + 1, none⟩ = some (.pointer none)) (g3 : w.cell? ⟨b', o' + 3, none⟩ = some (.int .u64 r')) :
    Calls Yba.prog 20 #[.pointer (some ⟨b, o, none⟩), .pointer (some ⟨b', o', none⟩)] w fun e w' => e = .returned (.bool (decide (r < r'))) ∧ Below w.heap.size w w' := by
  have HC : Hid (cmp3 a a' = 0) := by show _ = _; rw [cmp3, if_neg (by omega), if_neg (by omega)]
  have hne : ((0 : Int) != 0) = false := by decide
  have c' : Hid (a = a') := c
  clear c
  have S0c : Hid (w.drew.cell? ⟨b, o, none⟩ = some (.int .u64 (wall a)) ∧ w.drew.cell? ⟨b, o + 1, none⟩ = some (.int .i64 (ext a)) ∧ w.drew.cell? ⟨b, o + 1 + 1, none⟩ = some (.pointer none) ∧ w.drew.cell? ⟨b', o', none⟩ = some (.int .u64 (wall a')) ∧ w.drew.cell? ⟨b', o' + 1, none⟩ = some (.int .i64 (ext a')) ∧ w.drew.cell? ⟨b', o' + 1 + 1, none⟩ = some (.pointer none)) := by
    simp only [World.cell?_drew]
    exact ⟨e0, e1, e2, g0, g1, g2⟩
  go_enter Yba.func20, Yba.ntmps20
  go_wp2
  go_region_held3 (fun w' => w'.cell? ⟨b, o, none⟩ = some (.int .u64 (wall a)) ∧ w'.cell? ⟨b, o + 1, none⟩ = some (.int .i64 (ext a)) ∧ w'.cell? ⟨b, o + 1 + 1, none⟩ = some (.pointer none) ∧ w'.cell? ⟨b', o', none⟩ = some (.int .u64 (wall a')) ∧ w'.cell? ⟨b', o' + 1, none⟩ = some (.int .i64 (ext a')) ∧ w'.cell? ⟨b', o' + 1 + 1, none⟩ = some (.pointer none))
    (first | with_reducible exact S0c.out | with_reducible exact S1c.out)
    (first
      | (go_at_call 24; refine (compare_any _ a a' h0 h1 h2 h3).mono ?_; rintro e w1 ⟨rfl, b1⟩; have B1 : Below w.heap.size w w1 := (Below.refl w.heap.size w).drew.trans b1; rw [HC.out]; have S1c : Hid (w1.cell? ⟨b, o, none⟩ = some (.int .u64 (wall a)) ∧ w1.cell? ⟨b, o + 1, none⟩ = some (.int .i64 (ext a)) ∧ w1.cell? ⟨b, o + 1 + 1, none⟩ = some (.pointer none) ∧ w1.cell? ⟨b', o', none⟩ = some (.int .u64 (wall a')) ∧ w1.cell? ⟨b', o' + 1, none⟩ = some (.int .i64 (ext a')) ∧ w1.cell? ⟨b', o' + 1 + 1, none⟩ = some (.pointer none)) := ⟨(B1.cell (cell_lt e0)).trans e0, (B1.cell (cell_lt e1)).trans e1, (B1.cell (cell_lt e2)).trans e2, (B1.cell (cell_lt g0)).trans g0, (B1.cell (cell_lt g1)).trans g1, (B1.cell (cell_lt g2)).trans g2⟩))
  have q3 := (B1.cell (cell_lt e3)).trans e3
  have q3' := (B1.cell (cell_lt g3)).trans g3
  clear S0c S1c e0 e1 e2 e3 g0 g1 g2 g3
  go_wp2
  go_quiet (fail)
  go_wp2
  go_ret
  exact ⟨rfl, below_drewN B1 _⟩

/-- The queue's order: by instant, then by rank. -/
def ltB (c : Cfg) (x y : Nat) : Bool := if c.at_ x = c.at_ y then decide (c.rk x < c.rk y) else decide (c.at_ x < c.at_ y)

theorem before_any (c : Cfg) (ok : c.Ok) (w : World) (b o b' o' x y : Nat) (hx : x < c.m) (hy : y < c.m)
    (e0 : w.cell? ⟨b, o, none⟩ = some (ent c x 0)) (e1 : w.cell? ⟨b, o + 1, none⟩ = some (ent c x 1)) (e2 : w.cell? ⟨b, o + 1 + 1, none⟩ = some (ent c x 2)) (e3 : w.cell? ⟨b, o + 3, none⟩ = some (ent c x 3))
    (g0 : w.cell? ⟨b', o', none⟩ = some (ent c y 0)) (g1 : w.cell? ⟨b', o' + 1, none⟩ = some (ent c y 1)) (g2 : w.cell? ⟨b', o' + 1 + 1, none⟩ = some (ent c y 2)) (g3 : w.cell? ⟨b', o' + 3, none⟩ = some (ent c y 3)) :
    Calls Yba.prog 20 #[.pointer (some ⟨b, o, none⟩), .pointer (some ⟨b', o', none⟩)] w fun e w' => e = .returned (.bool (ltB c x y)) ∧ Below w.heap.size w w' := by
  rcases Int.lt_trichotomy (c.at_ x) (c.at_ y) with h | h | h
  · have e : ltB c x y = true := by rw [ltB, if_neg (by omega)]; exact decide_eq_true h
    rw [e]
    exact before_lt w b o b' o' _ _ _ _ (ok.lo x hx) (ok.hi x hx) (ok.lo y hy) (ok.hi y hy) h e0 e1 e2 e3 g0 g1 g2 g3
  · have e : ltB c x y = decide (c.rk x < c.rk y) := by rw [ltB, if_pos h]
    rw [e]
    exact before_eq w b o b' o' _ _ _ _ (ok.lo x hx) (ok.hi x hx) (ok.lo y hy) (ok.hi y hy) h e0 e1 e2 e3 g0 g1 g2 g3
  · have e : ltB c x y = false := by rw [ltB, if_neg (by omega)]; exact decide_eq_false (by omega)
    rw [e]
    exact before_gt w b o b' o' _ _ _ _ (ok.lo x hx) (ok.hi x hx) (ok.lo y hy) (ok.hi y hy) h e0 e1 e2 e3 g0 g1 g2 g3

set_option maxHeartbeats 1000000 in
theorem due_any (w : World) (b : Nat) (a r : Int) (h0 : -128 ≤ a) (h1 : a ≤ 127) (c0 : w.cell? ⟨b, 0, none⟩ = some (.int .i64 a)) (c1 : w.cell? ⟨b, 1, none⟩ = some (.int .u64 r)) :
    Calls Yba.prog 40 #[.pointer (some ⟨b, 0, none⟩)] w fun e w' => e = .returned (.tuple #[.agg #[.int .u64 (wall a), .int .i64 (ext a), .pointer none], .int .u64 r]) ∧ Below w.heap.size w w' := by
  have hb1 := (Below.refl w.heap.size w).alloc (Nat.le_refl _) (Obj.cells #[.int .u64 0, .int .i64 0, .pointer none] 39)
  have hlt := cell_lt c0
  go_enter Yba.func40, Yba.ntmps40
  go_wp2
  obtain ⟨w1, hw1⟩ : ∃ w1, w1 = w.alloc (Obj.cells #[.int .u64 0, .int .i64 0, .pointer none] 39) := ⟨_, rfl⟩
  have hN : Hid (w1.cell? ⟨w.heap.size, 0, none⟩ = some (.int .u64 0) ∧ w1.cell? ⟨w.heap.size, 1, none⟩ = some (.int .i64 0) ∧ w1.cell? ⟨w.heap.size, 2, none⟩ = some (.pointer none) ∧ (∀ o, w1.frozen? ⟨w.heap.size, o, none⟩ = false)) := by
    refine ⟨?_, ?_, ?_, fun o => ?_⟩
    all_goals (rw [hw1]; simp [go_sem])
  rw [← hw1] at hb1 ⊢
  have hsz : w.heap.size < w1.heap.size := by rw [hw1]; simp
  clear hw1
  have S0c : Hid (w1.drew.cell? ⟨b, 0, none⟩ = some (.int .i64 a) ∧ w1.drew.cell? ⟨b, 1, none⟩ = some (.int .u64 r)) := by
    simp only [World.cell?_drew]
    exact ⟨(hb1.cell hlt).trans c0, (hb1.cell hlt).trans c1⟩
  go_region_held3 (fun w' => w'.cell? ⟨b, 0, none⟩ = some (.int .i64 a) ∧ w'.cell? ⟨b, 1, none⟩ = some (.int .u64 r))
    (first | with_reducible exact S0c.out | with_reducible exact S1c.out | with_reducible exact S2c.out)
    (first
      | (go_at_call 9; refine (add_any _ a h0 h1).mono ?_; rintro e w2 ⟨rfl, b2⟩; have B2 : Below w1.heap.size w1 w2 := (Below.refl w1.heap.size w1).drew.trans b2; have BW : Hid (Below w.heap.size w w2) := hb1.trans (B2.mono hb1.size); have S1c : Hid (w2.cell? ⟨b, 0, none⟩ = some (.int .i64 a) ∧ w2.cell? ⟨b, 1, none⟩ = some (.int .u64 r)) := ⟨(BW.out.cell hlt).trans c0, (BW.out.cell hlt).trans c1⟩; have m0 := (B2.cell (p := ⟨w.heap.size, 0, none⟩) hsz).trans hN.out.1; have m1 := (B2.cell (p := ⟨w.heap.size, 1, none⟩) hsz).trans hN.out.2.1; have m2 := (B2.cell (p := ⟨w.heap.size, 2, none⟩) hsz).trans hN.out.2.2.1; have n0 := (B2.frozen (p := ⟨w.heap.size, 0, none⟩) hsz).trans (hN.out.2.2.2 0); have n1 := (B2.frozen (p := ⟨w.heap.size, 1, none⟩) hsz).trans (hN.out.2.2.2 1); have n2 := (B2.frozen (p := ⟨w.heap.size, 2, none⟩) hsz).trans (hN.out.2.2.2 2); have BZ : Hid (Below w.heap.size w (((w2.setCell ⟨w.heap.size, 0, none⟩ (.int .u64 (wall a))).setCell ⟨w.heap.size, 1, none⟩ (.int .i64 (ext a))).setCell ⟨w.heap.size, 2, none⟩ (.pointer none))) := ((BW.out.setCell (Nat.le_refl _) _).setCell (Nat.le_refl _) _).setCell (Nat.le_refl _) _; have S2c : Hid ((((w2.setCell ⟨w.heap.size, 0, none⟩ (.int .u64 (wall a))).setCell ⟨w.heap.size, 1, none⟩ (.int .i64 (ext a))).setCell ⟨w.heap.size, 2, none⟩ (.pointer none)).cell? ⟨b, 0, none⟩ = some (.int .i64 a) ∧ (((w2.setCell ⟨w.heap.size, 0, none⟩ (.int .u64 (wall a))).setCell ⟨w.heap.size, 1, none⟩ (.int .i64 (ext a))).setCell ⟨w.heap.size, 2, none⟩ (.pointer none)).cell? ⟨b, 1, none⟩ = some (.int .u64 r)) := ⟨(BZ.out.cell hlt).trans c0, (BZ.out.cell hlt).trans c1⟩))
  go_wp2
  refine bodyPost_ret (v := .tuple #[.agg #[.int .u64 (wall a), .int .i64 (ext a), .pointer none], .int .u64 r]) (by simp [results, Yba.results40, go_sem, m0, m1, m2]) rfl ⟨rfl, BZ.out⟩

set_option maxHeartbeats 1000000 in
/-- zzs5709bless at two items that are not in order: false. -/
theorem less_any (c : Cfg) (w : World) (x y : Nat) (j j' : Int) (hx : Item c w x j) (hy : Item c w y j') :
    Calls Yba.prog 10 #[.pointer (some ⟨c.IB x, 0, none⟩), .pointer (some ⟨c.IB y, 0, none⟩)] w fun e w' => e = .returned (.bool (ltB c x y)) ∧ ∃ k, w' = w.drewN k := by
  have a0 := hx.c0
  have a1 := hx.c1
  have b0 := hy.c0
  have b1 := hy.c1
  by_cases h : c.at_ x = c.at_ y
  · have hA : Hid (decide (c.rk x < c.rk y) = ltB c x y) := by show _ = _; rw [ltB, if_pos h]
    have hne : (c.at_ x != c.at_ y) = false := by simp [h]
    clear h
    go_enter Yba.func10, Yba.ntmps10
    go_wp2
    go_quiet (fail)
    go_wp2
    go_quiet (fail)
    go_wp2
    go_ret
    exact ⟨ret_bool hA.out, _, World.drewN_drewN _ _ _⟩
  · have hA : Hid (decide (c.at_ x < c.at_ y) = ltB c x y) := by show _ = _; rw [ltB, if_neg h]
    have hne : (c.at_ x != c.at_ y) = true := by simp [h]
    clear h
    go_enter Yba.func10, Yba.ntmps10
    go_wp2
    go_quiet (fail)
    go_wp2
    go_quiet (fail)
    go_wp2
    go_ret
    exact ⟨ret_bool hA.out, _, World.drewN_drewN _ _ _⟩

/-- The bools that came in as 'dels'. -/
structure Dels (w : World) (ad : Option Addr) (n : Nat) (D : Nat → Bool) : Prop where
  spot : 0 < n → ∃ b off, ad = some ⟨b, off, none⟩ ∧ ∀ j, j < n → w.cell? ⟨b, off + j, none⟩ = some (.bool (D j))

theorem Dels.keep {w w' : World} {ad : Option Addr} {n : Nat} {D : Nat → Bool} (h : Dels w ad n D) (hk : ∀ p v, w.cell? p = some v → w'.cell? p = some v) : Dels w' ad n D :=
  ⟨fun hn => by
    obtain ⟨b, off, e, hc⟩ := h.spot hn
    exact ⟨b, off, e, fun j hj => hk _ _ (hc j hj)⟩⟩

/-- Is item number id to be deleted? -/
def wantB (n : Nat) (D : Nat → Bool) (id : Nat) : Bool := if 0 < n then D (id % n) else decide (id % 3 = 0)

set_option maxHeartbeats 1000000 in
theorem want_any (w : World) (ad : Option Addr) (n cd : Nat) (D : Nat → Bool) (id : Nat) (h : Dels w ad n D) (hn : n ≤ 9223372036854775807) (hid : id ≤ 4096) :
    Calls Yba.prog 5 #[.slice ad n cd, .int .i64 id] w fun e w' => e = .returned (.bool (wantB n D id)) ∧ w' = w := by
  by_cases hp : 0 < n
  · obtain ⟨b, off, rfl, hc⟩ := h.spot hp
    have hq := hc (id % n) (Nat.mod_lt _ hp)
    have hA : Hid (D (id % n) = wantB n D id) := by show _ = _; rw [wantB, if_pos hp]
    have hpi : (0 : Int) < (n : Int) := by omega
    have hr0 : (0 : Int) ≤ (id : Int) % (n : Int) := Int.emod_nonneg _ (by omega)
    have hr1 : (id : Int) % (n : Int) < (n : Int) := Int.emod_lt_of_pos _ hpi
    have hc' : w.cell? ⟨b, off + ((id : Int) % (n : Int)).toNat, none⟩ = some (.bool (D (id % n))) := by
      rw [show ((id : Int) % (n : Int)).toNat = id % n by omega]; exact hq
    clear hc
    go_enter Yba.func5, Yba.ntmps5
    go_wp2
    go_ret
    exact ⟨ret_bool hA.out, rfl⟩
  · obtain rfl : n = 0 := by omega
    have hA : Hid (((id : Int) % 3 == 0) = wantB 0 D id) := by
      show _ = _
      rw [wantB, if_neg (by omega), Bool.eq_iff_iff]
      simp
      omega
    go_enter Yba.func5, Yba.ntmps5
    go_wp2
    go_ret
    exact ⟨ret_bool hA.out, rfl⟩

end Go.Proofs.Ybulkdnfc
