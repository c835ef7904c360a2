/-
  Seat b5709a: up (11).
-/
import Derived.Test.YbulkdnfcBefore
namespace Go.Proofs.Ybulkdnfc
open Go.RowKit
set_option linter.unusedVariables false

def at0 (L : Array Nat) (k : Nat) : Nat := L.getD k 0

theorem at0_swap (L : Array Nat) (i j : Nat) (hi : i < L.size) (hj : j < L.size) (k : Nat) (hk : k < L.size) : at0 (L.swap i j hi hj) k = if k = i then at0 L j else if k = j then at0 L i else at0 L k := by
  have hk' : k < (L.swap i j hi hj).size := by simpa using hk
  simp only [at0, Array.getD, hk, hi, hj, hk', dif_pos]
  simp [Array.getElem_swap]

/-- The array's cells are the entries of L, but for place 'hole'. -/
def Agree (c : Cfg) (f : Nat → Value) (L : Array Nat) (hole : Nat) : Prop := ∀ k, k < L.size → k ≠ hole → ∀ t, t < 5 → f (k * 5 + t) = ent c (at0 L k) t
/-- .. all of them. -/
def Holds (c : Cfg) (f : Nat → Value) (L : Array Nat) : Prop := ∀ k, k < L.size → ∀ t, t < 5 → f (k * 5 + t) = ent c (at0 L k) t
def Ids (c : Cfg) (L : Array Nat) : Prop := ∀ k, k < L.size → at0 L k < c.m

theorem Agree.fill {c : Cfg} {f f' : Nat → Value} {L : Array Nat} {k : Nat} (h : Agree c f L k) (hp : PutAt c f f' k (at0 L k)) : Holds c f' L := by
  intro j hj t ht
  by_cases e : j = k
  · subst e; exact hp.2 t ht
  · rw [hp.1 _ (by omega)]; exact h j hj e t ht

theorem Agree.move {c : Cfg} {f f' : Nat → Value} {L : Array Nat} {k p : Nat} (hk : k < L.size) (hpl : p < L.size) (hkp : k ≠ p) (h : Agree c f L k) (hp : PutAt c f f' k (at0 L p)) : Agree c f' (L.swap k p hk hpl) p := by
  intro j hj hjp t ht
  have hj' : j < L.size := by simpa using hj
  rw [at0_swap L k p hk hpl j hj']
  by_cases e : j = k
  · subst e; rw [if_pos rfl]; exact hp.2 t ht
  · rw [if_neg e, if_neg hjp, hp.1 _ (by omega)]; exact h j hj' e t ht

theorem Ids.swap {c : Cfg} {L : Array Nat} (h : Ids c L) {i j : Nat} (hi : i < L.size) (hj : j < L.size) : Ids c (L.swap i j hi hj) := by
  intro k hk
  have hk' : k < L.size := by simpa using hk
  rw [at0_swap L i j hi hj k hk']
  split
  · exact h j hj
  · split
    · exact h i hi
    · exact h k hk'

/-- The cells of one entry of the array, as the walk asks for them. -/
theorem entry_cells {c : Cfg} {w : World} {g n : Nat} {f : Nat → Value} (hr : w.rowIs g 41 n f) (k x : Nat) (hk : k * 5 + 5 ≤ n) (hf : ∀ t, t < 5 → f (k * 5 + t) = ent c x t) :
    w.cell? ⟨g, k * 5, none⟩ = some (.int .u64 (wall (c.at_ x))) ∧ w.cell? ⟨g, k * 5 + 1, none⟩ = some (.int .i64 (ext (c.at_ x))) ∧ w.cell? ⟨g, k * 5 + 1 + 1, none⟩ = some (.pointer none) ∧ w.cell? ⟨g, k * 5 + 1 + 1 + 1, none⟩ = some (.int .u64 (c.rk x)) ∧
      w.cell? ⟨g, k * 5 + 1 + 1 + 1 + 1, none⟩ = some (.pointer (some ⟨c.IB x, 0, none⟩)) :=
  ⟨(hr.cell (by omega)).trans (congrArg some (hf 0 (by omega))), (hr.cell (by omega)).trans (congrArg some (hf 1 (by omega))), (hr.cell (by omega)).trans (congrArg some (hf 2 (by omega))), (hr.cell (by omega)).trans (congrArg some (hf 3 (by omega))), (hr.cell (by omega)).trans (congrArg some (hf 4 (by omega)))⟩

/-- A boxed entry at block N. -/
def BoxAt (c : Cfg) (w : World) (N x : Nat) : Prop :=
  w.cell? ⟨N, 0, none⟩ = some (.int .u64 (wall (c.at_ x))) ∧ w.cell? ⟨N, 1, none⟩ = some (.int .i64 (ext (c.at_ x))) ∧ w.cell? ⟨N, 2, none⟩ = some (.pointer none) ∧ w.cell? ⟨N, 3, none⟩ = some (.int .u64 (c.rk x)) ∧ w.cell? ⟨N, 4, none⟩ = some (.pointer (some ⟨c.IB x, 0, none⟩))
theorem BoxAt.kept {c : Cfg} {w w' : World} {N x : Nat} {T : Nat → Prop} (h : BoxAt c w N x) (hk : Kept T w w') (hN : ¬ T N) : BoxAt c w' N x :=
  ⟨hk.cell h.1 hN, hk.cell h.2.1 hN, hk.cell h.2.2.1 hN, hk.cell h.2.2.2.1 hN, hk.cell h.2.2.2.2 hN⟩

theorem Tq_lt {c : Cfg} {w : World} {Q g n cap : Nat} {f : Nat → Value} {J : Nat → Int} (h : QM c w Q g n cap f J) {k : Nat} (hk : Tq c Q g k) : k < w.heap.size := by
  rcases hk with rfl | rfl | ⟨id, hid, rfl⟩
  · exact h.row.lt
  · exact cell_lt h.q
  · exact cell_lt (h.it id hid).c0

set_option maxHeartbeats 1000000 in
theorem up_any (c : Cfg) (ok : c.Ok) (w : World) (Q g cap : Nat) (f : Nat → Value) (J : Nat → Int) (L : Array Nat) (i : Nat) (hi : i < L.size) (hL : L.size ≤ 4096) (hids : Ids c L) (h : QM c w Q g L.size cap f J) (hA : Holds c f L) :
    Calls Yba.prog 11 #[.pointer (some ⟨Q, 0, none⟩), .int .i64 i] w fun e w' => e = .returned (.tuple #[]) ∧ ∃ (L' : Array Nat) (f' : Nat → Value) (J' : Nat → Int), L'.Perm L ∧ QM c w' Q g L.size cap f' J' ∧ Holds c f' L' ∧ Kept (Tq c Q g) w w' := by
  have hnc := h.nc
  have hq := h.q
  obtain ⟨x, hx⟩ : ∃ x, x = at0 L i := ⟨_, rfl⟩
  have hxm : x < c.m := by rw [hx]; exact hids i hi
  obtain ⟨k0, k1, k2, k3, k4⟩ := entry_cells (c := c) h.row i x (by omega) (fun t ht => by rw [hx]; exact hA i hi t ht)
  obtain ⟨n, hn⟩ : ∃ n, n = L.size := ⟨_, rfl⟩
  rw [← hn] at h hq hi hL hnc ⊢
  have HX : Hid (x = at0 L i) := hx
  have HN : Hid (n = L.size) := hn
  have hii : (i : Int) < (n : Int) := by omega
  have hNT : ¬ Tq c Q g w.heap.size := fun ht => by have := Tq_lt h ht; omega
  clear hx hn
  go_enter Yba.func11, Yba.ntmps11
  go_wp2
  have hb1 := (Below.refl w.heap.size w).alloc (Nat.le_refl _) (Obj.cells #[.int .u64 (wall (c.at_ x)), .int .i64 (ext (c.at_ x)), .pointer none, .int .u64 (c.rk x), .pointer (some ⟨c.IB x, 0, none⟩)] 41)
  obtain ⟨w1, hw1⟩ : ∃ w1, w1 = w.alloc (Obj.cells #[.int .u64 (wall (c.at_ x)), .int .i64 (ext (c.at_ x)), .pointer none, .int .u64 (c.rk x), .pointer (some ⟨c.IB x, 0, none⟩)] 41) := ⟨_, rfl⟩
  have hbox : BoxAt c w1 w.heap.size x := by
    refine ⟨?_, ?_, ?_, ?_, ?_⟩
    all_goals (rw [hw1]; simp [go_sem])
  rw [← hw1] at hb1 ⊢
  clear hw1
  have h1 := h.below hb1
  have hK1 : Kept (Tq c Q g) w w1 := Kept.of_below hb1
  generalize w.heap.size = N at hbox hNT ⊢
  clear k0 k1 k2 k3 k4 hq hb1 h
  go_loopw [1] (fun v wr => ∃ (k : Nat) (f : Nat → Value) (J : Nat → Int) (L' : Array Nat), k < n ∧ v = .int .i64 k ∧ Hid (L'.size = n ∧ L'.Perm L ∧ at0 L' k = x ∧ Ids c L' ∧ Agree c f L' k) ∧ QM c wr Q g n cap f J ∧ Kept (Tq c Q g) w1 wr) (fun v _ => (intOf v).toNat)
  case atStart => exact ⟨i, f, J, L, hi, rfl, ⟨HN.out.symm, Array.Perm.refl _, HX.out.symm, hids, fun k hk _ t ht => hA k hk t ht⟩, h1, Kept.refl _ _⟩
  case round =>
    obtain ⟨k, f1, J1, L1, hkn, rfl, hL1, hM, hK⟩ := hrel
    have hbx := hbox.kept hK hNT
    by_cases hk0 : 0 < k
    · obtain ⟨p, hp⟩ : ∃ p, p = (k - 1) / 2 := ⟨_, rfl⟩
      have hpe : ((k : Int) - 1) / 2 = (p : Int) := by omega
      have hpn : p < n := by omega
      have hpk : p < k := by omega
      have hpi : (p : Int) < (n : Int) := by omega
      have hki : (0 : Int) < (k : Int) := by omega
      clear hp
      obtain ⟨y, hy⟩ : ∃ y, y = at0 L1 p := ⟨_, rfl⟩
      have HY : Hid (y = at0 L1 p) := hy
      have hym : y < c.m := by rw [hy]; exact hL1.out.2.2.2.1 p (by have := hL1.out.1; omega)
      obtain ⟨e0, e1, e2, e3, e4⟩ := entry_cells (c := c) hM.row p y (by have := hM.nc; omega) (fun t ht => by rw [hy]; exact hL1.out.2.2.2.2 p (by have := hL1.out.1; omega) (by omega) t ht)
      have hq := hM.q
      obtain ⟨b0, b1, b2, b3, b4⟩ := hbx
      clear hy
      cases hlt : ltB c x y with
      | true =>
        go_wp2_with fail
        refine (before_any c ok _ N 0 g (p * 5) x y hxm hym b0 b1 b2 b3 e0 e1 e2 e3).mono ?_
        rintro e w2 ⟨rfl, hb2⟩
        rw [hlt]
        have hM2 := hM.below hb2
        have hq2 := hM2.q
        obtain ⟨e0, e1, e2, e3, e4⟩ := entry_cells (c := c) hM2.row p y (by have := hM2.nc; omega) (fun t ht => by rw [HY.out]; exact hL1.out.2.2.2.2 p (by have := hL1.out.1; omega) (by omega) t ht)
        have hK2 : Kept (Tq c Q g) w1 w2 := hK.trans (Kept.of_below hb2)
        clear hb2 hM hq hlt
        go_wp2_with fail
        refine (set_any c _ Q g n cap f1 J1 hM2 k y (by omega) hym ok).mono ?_
        rintro e w3 ⟨rfl, f2, hM3, hput, hK3⟩
        have HP : Hid (PutAt c f1 f2 k y) := hput
        clear hM2 e0 e1 e2 e3 e4 hq2 b0 b1 b2 b3 b4 hput
        go_wp2
        go_roundw
        case rel =>
          obtain ⟨g1, g2, g3, g4, g5⟩ := hL1.out
          have hks : k < L1.size := by omega
          have hps : p < L1.size := by omega
          refine ⟨p, f2, _, L1.swap k p hks hps, by omega, rfl, ⟨by simpa using g1, (Array.swap_perm hks hps).trans g2, ?_, g4.swap hks hps, ?_⟩, hM3, hK2.trans hK3⟩
          · rw [at0_swap L1 k p hks hps p hps, if_neg (by omega), if_pos rfl]; exact g3
          · refine g5.move hks hps (by omega) ?_
            rw [← HY.out]; exact HP.out
        case measure => simp [intOf]; omega
      | false =>
        go_wp2_with fail
        refine (before_any c ok _ N 0 g (p * 5) x y hxm hym b0 b1 b2 b3 e0 e1 e2 e3).mono ?_
        rintro e w2 ⟨rfl, hb2⟩
        rw [hlt]
        have hM2 := hM.below hb2
        have hK2 : Kept (Tq c Q g) w1 w2 := hK.trans (Kept.of_below hb2)
        have bx2 := (hbox.kept hK2 hNT)
        obtain ⟨b0, b1, b2, b3, b4⟩ := bx2
        clear hb2 hM hq hlt e0 e1 e2 e3 e4
        go_wp2_with fail
        refine (set_any c _ Q g n cap f1 J1 hM2 k x (by omega) hxm ok).mono ?_
        rintro e w3 ⟨rfl, f2, hM3, hput, hK3⟩
        have HP : Hid (PutAt c f1 f2 k x) := hput
        clear hM2 b0 b1 b2 b3 b4 hput
        go_wp2
        go_end0
        obtain ⟨g1, g2, g3, g4, g5⟩ := hL1.out
        exact ⟨rfl, L1, f2, _, g2, hM3, g5.fill (by rw [g3]; exact HP.out), hK1.trans (hK2.trans hK3)⟩
    · obtain rfl : k = 0 := by omega
      obtain ⟨b0, b1, b2, b3, b4⟩ := hbx
      go_wp2_with fail
      refine (set_any c _ Q g n cap f1 J1 hM 0 x (by omega) hxm ok).mono ?_
      rintro e w3 ⟨rfl, f2, hM3, hput, hK3⟩
      have HP : Hid (PutAt c f1 f2 0 x) := hput
      clear hM b0 b1 b2 b3 b4 hput
      go_wp2
      go_end0
      obtain ⟨g1, g2, g3, g4, g5⟩ := hL1.out
      exact ⟨rfl, L1, f2, _, g2, hM3, g5.fill (by rw [g3]; exact HP.out), hK1.trans (hK.trans hK3)⟩

end Go.Proofs.Ybulkdnfc
