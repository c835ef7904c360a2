/-
  Seat b5709a: down (23).
-/
import Derived.Test.YbulkdnfcHeap
import Derived.Deep.DeepCutAuto
namespace Go.Proofs.Ybulkdnfc
open Go.RowKit
set_option linter.unusedVariables false

/-- What holds in the loop of down: e, item x, is on its way down, at place j by now. -/
structure Way (c : Cfg) (L0 : Array Nat) (J0 : Nat → Int) (n s x j : Nat) (f : Nat → Value) (J : Nat → Int) (L : Array Nat) : Prop where
  size : L.size = n
  perm : L.Perm L0
  at_ : at0 L j = x
  ids : Ids c L
  ag : Agree c f L j
  sift : Sift c L s j
  inj : Inj L
  idx : IdxBut L J j
  out : Out L0 J0 J

set_option maxHeartbeats 2000000 in
theorem down_any (c : Cfg) (ok : c.Ok) (w : World) (Q g cap : Nat) (f : Nat → Value) (J : Nat → Int) (L : Array Nat) (i : Nat) (hi : i < L.size) (hL : L.size ≤ 4096) (hids : Ids c L) (h : QM c w Q g L.size cap f J) (hA : Holds c f L)
    (hHeap : HeapFrom c L (i + 1)) (hInj : Inj L) (hIdx : Idx L J) :
    Calls Yba.prog 23 #[.pointer (some ⟨Q, 0, none⟩), .int .i64 i] w fun e w' => (∃ b, e = .returned (.bool b)) ∧ ∃ (L' : Array Nat) (f' : Nat → Value) (J' : Nat → Int), L'.Perm L ∧ QM c w' Q g L.size cap f' J' ∧ Holds c f' L' ∧ HeapFrom c L' i ∧ Inj L' ∧ Idx L' J' ∧ Out L J J' ∧ Kept (Tq c Q g) w w' := by
  have hnc := h.nc
  have hq := h.q
  obtain ⟨x, hx⟩ : ∃ x, x = at0 L i := ⟨_, rfl⟩
  have hxm : x < c.m := by rw [hx]; exact hids i hi
  obtain ⟨k0, k1, k2, k3, k4⟩ := entry_cells (c := c) h.row i x (by omega) (fun t ht => by rw [hx]; exact hA i hi t ht)
  obtain ⟨n, hn⟩ : ∃ n, n = L.size := ⟨_, rfl⟩
  rw [← hn] at h hq hi hL hnc ⊢
  have HX : Hid (x = at0 L i) := hx
  have HN : Hid (n = L.size) := hn
  have hii : (i : Int) < (n : Int) := by omega
  have hNT : ¬ Tq c Q g w.heap.size := fun ht => by have := Tq_lt h ht; omega
  clear hx hn
  go_enter Yba.func23, Yba.ntmps23
  go_wp2
  have hb1 := (Below.refl w.heap.size w).alloc (Nat.le_refl _) (Obj.cells #[.int .u64 (wall (c.at_ x)), .int .i64 (ext (c.at_ x)), .pointer none, .int .u64 (c.rk x), .pointer (some ⟨c.IB x, 0, none⟩)] 41)
  obtain ⟨w1, hw1⟩ : ∃ w1, w1 = w.alloc (Obj.cells #[.int .u64 (wall (c.at_ x)), .int .i64 (ext (c.at_ x)), .pointer none, .int .u64 (c.rk x), .pointer (some ⟨c.IB x, 0, none⟩)] 41) := ⟨_, rfl⟩
  have hbox : BoxAt c w1 w.heap.size x := by
    refine ⟨?_, ?_, ?_, ?_, ?_⟩
    all_goals (rw [hw1]; simp [go_sem])
  rw [← hw1] at hb1 ⊢
  clear hw1
  have h1 := h.below hb1
  have hK1 : Kept (Tq c Q g) w w1 := Kept.of_below hb1
  generalize w.heap.size = N at hbox hNT ⊢
  have hq1 := h1.q
  clear k0 k1 k2 k3 k4 hq hb1 h
  go_quiet (fail)
  go_wp2
  go_loopw [1] (fun v wr => ∃ (j : Nat) (f1 : Nat → Value) (J1 : Nat → Int) (L1 : Array Nat), j < n ∧ v = .int .i64 j ∧ Hid (Way c L J n i x j f1 J1 L1) ∧ QM c wr Q g n cap f1 J1 ∧ Kept (Tq c Q g) w1 wr) (fun v _ => n - (intOf v).toNat)
  case atStart => exact ⟨i, f, J, L, hi, rfl, ⟨HN.out.symm, Array.Perm.refl _, HX.out.symm, hids, fun k hk _ t ht => hA k hk t ht, Sift.start hHeap, hInj, fun k hk _ => hIdx k hk, fun _ _ => rfl⟩, h1.below (below_drewN (Below.refl _ _) _), Kept.of_below (below_drewN (Below.refl _ _) _)⟩
  case round =>
    obtain ⟨j, f1, J1, L1, hjn, rfl, hW, hM, hK⟩ := hrel
    clear hA hHeap hInj hIdx h1 hids hq1
    obtain ⟨m1, hm1⟩ : ∃ m1, m1 = 2 * j + 1 := ⟨_, rfl⟩
    obtain ⟨m2, hm2⟩ : ∃ m2, m2 = 2 * j + 2 := ⟨_, rfl⟩
    have he1 : 2 * (j : Int) + 1 = (m1 : Int) := by omega
    have he2 : (m1 : Int) + 1 = (m2 : Int) := by omega
    have HM1 : Hid (m1 = 2 * j + 1) := hm1
    have HM2 : Hid (m2 = 2 * j + 2) := hm2
    have hm14 : m1 ≤ 8193 := by omega
    have hm24 : m2 ≤ 8194 := by omega
    have hmj1 : j < m1 := by omega
    have hmj2 : j < m2 := by omega
    clear hm1 hm2
    by_cases hc : m1 < n
    · have hci : (m1 : Int) < (n : Int) := by omega
      have hci' : ¬ (n : Int) ≤ (m1 : Int) := by omega
      obtain ⟨y, hy⟩ : ∃ y, y = at0 L1 m1 := ⟨_, rfl⟩
      have HY : Hid (y = at0 L1 m1) := hy
      have hym : y < c.m := by rw [hy]; exact hW.out.ids _ (by have := hW.out.size; omega)
      have hce := entry_cells (c := c) hM.row m1 y (by have := hM.nc; omega) (fun t ht => by rw [hy]; exact hW.out.ag _ (by have := hW.out.size; omega) (by omega) t ht)
      have HCE : Hid _ := hce
      clear hy hce
      have hq := hM.q
      go_upto_region 6 with fail
      go_cut [48] (fun b wx => Below wr.heap.size wr wx ∧ ∃ (bb : Bool), b = .bool bb ∧ Hid (bb = true → m2 < n ∧ ltB c (at0 L1 m2) y = true) ∧ Hid (bb = false → m2 < n → Le c y (at0 L1 m2)))
      case first =>
        by_cases hr : m2 < n
        · have hri : (m2 : Int) < (n : Int) := by omega
          obtain ⟨z, hz⟩ : ∃ z, z = at0 L1 m2 := ⟨_, rfl⟩
          have hzm : z < c.m := by rw [hz]; exact hW.out.ids _ (by have := hW.out.size; omega)
          have HZ : Hid (z = at0 L1 m2) := hz
          obtain ⟨e0, e1, e2, e3, e4⟩ := entry_cells (c := c) hM.row m2 z (by have := hM.nc; omega) (fun t ht => by rw [hz]; exact hW.out.ag _ (by have := hW.out.size; omega) (by omega) t ht)
          obtain ⟨d0, d1, d2, d3, d4⟩ := HCE.out
          have bd : Below wr.heap.size wr wr.drew := (Below.refl _ _).drew
          have S0c : Hid (wr.drew.cell? ⟨Q, 0, none⟩ = some (.slice (some ⟨g, 0, none⟩) n cap)) := by rw [World.cell?_drew]; exact hq
          clear hz
          go_region_held3 (fun w' => w'.cell? ⟨Q, 0, none⟩ = some (.slice (some ⟨g, 0, none⟩) n cap))
            (first | with_reducible exact S0c.out | with_reducible exact S1c.out)
            (first
              | (go_at_call 20; refine (before_any c ok _ g (m2 * 5) g (m1 * 5) z y hzm hym ((bd.cell (cell_lt e0)).trans e0) ((bd.cell (cell_lt e1)).trans e1) ((bd.cell (cell_lt e2)).trans e2) ((bd.cell (cell_lt e3)).trans e3) ((bd.cell (cell_lt d0)).trans d0) ((bd.cell (cell_lt d1)).trans d1) ((bd.cell (cell_lt d2)).trans d2) ((bd.cell (cell_lt d3)).trans d3)).mono ?_; rintro e w2 ⟨rfl, hb2⟩; have B2 : Below wr.heap.size wr w2 := bd.trans hb2; have S1c : Hid (w2.cell? ⟨Q, 0, none⟩ = some (.slice (some ⟨g, 0, none⟩) n cap)) := (B2.cell (cell_lt hq)).trans hq))
          go_wp2
          go_meet
          case rel =>
            refine ⟨B2, ltB c z y, rfl, fun h => ⟨hr, by rw [← HZ.out]; exact h⟩, fun h _ => ?_⟩
            rw [← HZ.out]; exact h
        · have hd : decide ((m2 : Int) < (n : Int)) = false := decide_eq_false (by omega)
          go_quiet (fail)
          go_wp2
          go_meet
          case rel => exact ⟨below_drewN (Below.refl _ _) _, false, rfl, (fun h => by cases h), fun _ h => absurd h hr⟩
      case rest =>
        obtain ⟨hb2, bb, rfl, hbt, hbf⟩ := hcut
        have hM2 := hM.below hb2
        have hK2 : Kept (Tq c Q g) w1 wc := hK.trans (Kept.of_below hb2)
        clear hM hK hb2 hq HCE
        go_upto_if 48 with fail
        go_cut [8] (fun v wx => wc = wx ∧ ∃ m : Nat, v = .int .i64 m ∧ m < n ∧ j < m ∧ Hid (0 < m ∧ (m - 1) / 2 = j ∧ ∀ k, k < n → 0 < k → (k - 1) / 2 = j → Le c (at0 L1 m) (at0 L1 k)))
        case first =>
          cases hbb : bb with
          | true =>
            subst hbb
            obtain ⟨u1, u2⟩ := hbt.out rfl
            go_wp2
            go_meet
            case rel =>
              refine ⟨rfl, m2, rfl, u1, hmj2, by have := HM2.out; omega, by have := HM2.out; omega, fun k hk h0 hkj => ?_⟩
              have q1 := HM1.out
              have q2 := HM2.out
              have q3 : k = m1 ∨ k = m2 := by omega
              rcases q3 with rfl | rfl
              · rw [← HY.out]; exact Le.of_lt u2
              · rw [Le_iff]; omega
          | false =>
            subst hbb
            go_wp2
            go_meet
            case rel =>
              refine ⟨rfl, m1, rfl, hc, hmj1, by have := HM1.out; omega, by have := HM1.out; omega, fun k hk h0 hkj => ?_⟩
              have q1 := HM1.out
              have q2 := HM2.out
              have q3 : k = m1 ∨ k = m2 := by omega
              rcases q3 with rfl | rfl
              · rw [Le_iff]; omega
              · rw [← HY.out]; exact hbf.out (by simp) hk
        case rest =>
          obtain ⟨rfl, m, rfl, hmn, hjm, hmm⟩ := hcut
          have hmi : (m : Int) < (n : Int) := by omega
          obtain ⟨z, hz⟩ : ∃ z, z = at0 L1 m := ⟨_, rfl⟩
          have HZ : Hid (z = at0 L1 m) := hz
          have hzm : z < c.m := by rw [hz]; exact hW.out.ids _ (by have := hW.out.size; omega)
          have hf5 : Hid (∀ t, t < 5 → f1 (m * 5 + t) = ent c z t) := fun t ht => by rw [hz]; exact hW.out.ag _ (by have := hW.out.size; omega) (by omega) t ht
          obtain ⟨e0, e1, e2, e3, e4⟩ := entry_cells (c := c) hM2.row m z (by have := hM2.nc; omega) hf5.out
          obtain ⟨b0, b1, b2, b3, b4⟩ := hbox.kept hK2 hNT
          have hq := hM2.q
          clear hz hbt hbf
          cases hlt : ltB c z x with
          | true =>
            go_wp2_with fail
            refine (before_any c ok _ g (m * 5) N 0 z x hzm hxm e0 e1 e2 e3 b0 b1 b2 b3).mono ?_
            rintro e w3 ⟨rfl, hb3⟩
            rw [hlt]
            have hM3 := hM2.below hb3
            have hK3 : Kept (Tq c Q g) w1 w3 := hK2.trans (Kept.of_below hb3)
            have hq3 := hM3.q
            have HLT : Hid (ltB c z x = true) := hlt
            clear e0 e1 e2 e3 e4 hM2 hK2 hb3 hq b0 b1 b2 b3 b4 hlt
            obtain ⟨e0, e1, e2, e3, e4⟩ := entry_cells (c := c) hM3.row m z (by have := hM3.nc; omega) hf5.out
            go_wp2_with fail
            refine (set_any c _ Q g n cap f1 J1 hM3 j z hjn hzm ok).mono ?_
            rintro e w4 ⟨rfl, f2, hM4, hput, hK4⟩
            have HP : Hid (PutAt c f1 f2 j z) := hput
            clear hput e0 e1 e2 e3 e4 hM3 hq3
            go_wp2
            go_roundw
            case rel =>
              obtain ⟨v1, v2, v3, v4, v5, v6, v7, v8, v9⟩ := hW.out
              obtain ⟨u1, u2, u3⟩ := hmm.out
              have hjs : j < L1.size := by omega
              have hms : m < L1.size := by omega
              refine ⟨m, f2, _, L1.swap j m hjs hms, hmn, rfl, ⟨by simpa using v1, (Array.swap_perm hjs hms).trans v2, ?_, v4.swap hjs hms, ?_, ?_, v7.swap hjs hms, ?_, v9.upd ?_ _⟩, hM4, hK3.trans hK4⟩
              · rw [at0_swap L1 j m hjs hms m hms, if_neg (by omega), if_pos rfl]; exact v3
              · exact v5.move hjs hms (by omega) (by rw [← HZ.out]; exact HP.out)
              · refine v6.down hjs hms ⟨u1, u2⟩ (by rw [← HZ.out, v3]; exact HLT.out) ?_
                rw [v1]; exact u3
              · rw [HZ.out]; exact v8.move v7 hjs hms (by omega)
              · rw [HZ.out]; exact v2.mem_iff.1 (at0_mem hms)
            case measure => simp [intOf]; omega
          | false =>
            go_wp2_with fail
            refine (before_any c ok _ g (m * 5) N 0 z x hzm hxm e0 e1 e2 e3 b0 b1 b2 b3).mono ?_
            rintro e w3 ⟨rfl, hb3⟩
            rw [hlt]
            have hM3 := hM2.below hb3
            have hK3 : Kept (Tq c Q g) w1 w3 := hK2.trans (Kept.of_below hb3)
            have HLT : Hid (ltB c z x = false) := hlt
            clear e0 e1 e2 e3 e4 hM2 hK2 hb3 hq b0 b1 b2 b3 b4 hlt
            obtain ⟨b0, b1, b2, b3, b4⟩ := hbox.kept hK3 hNT
            go_wp2_with fail
            refine (set_any c _ Q g n cap f1 J1 hM3 j x hjn hxm ok).mono ?_
            rintro e w4 ⟨rfl, f2, hM4, hput, hK4⟩
            have HP : Hid (PutAt c f1 f2 j x) := hput
            clear hput b0 b1 b2 b3 b4
            go_wp2
            go_ret
            obtain ⟨v1, v2, v3, v4, v5, v6, v7, v8, v9⟩ := hW.out
            refine ⟨⟨_, rfl⟩, L1, f2, _, v2, hM4, v5.fill (by rw [v3]; exact HP.out), v6.done ?_, v7, ?_, v9.upd ?_ _, hK1.trans (hK3.trans hK4)⟩
            · intro k hk h0 hkj; rw [v3]; refine Le.trans HLT.out ?_; rw [HZ.out]; exact hmm.out.2.2 k (by omega) h0 hkj
            · have := v8.fill v7 (by omega)
              rwa [v3] at this
            · rw [← v3]; exact v2.mem_iff.1 (at0_mem (by omega))

    · have hci : (n : Int) ≤ (m1 : Int) := by omega
      obtain ⟨b0, b1, b2, b3, b4⟩ := hbox.kept hK hNT
      go_wp2_with fail
      refine (set_any c _ Q g n cap f1 J1 hM j x hjn hxm ok).mono ?_
      rintro e w4 ⟨rfl, f2, hM4, hput, hK4⟩
      have HP : Hid (PutAt c f1 f2 j x) := hput
      clear hput b0 b1 b2 b3 b4
      go_wp2
      go_ret
      obtain ⟨v1, v2, v3, v4, v5, v6, v7, v8, v9⟩ := hW.out
      refine ⟨⟨_, rfl⟩, L1, f2, _, v2, hM4, v5.fill (by rw [v3]; exact HP.out), v6.done ?_, v7, ?_, v9.upd ?_ _, hK1.trans (hK.trans hK4)⟩
      · intro k hk h0 hkj; exfalso; have := HM1.out; omega
      · have := v8.fill v7 (by omega)
        rwa [v3] at this
      · rw [← v3]; exact v2.mem_iff.1 (at0_mem (by omega))

end Go.Proofs.Ybulkdnfc
