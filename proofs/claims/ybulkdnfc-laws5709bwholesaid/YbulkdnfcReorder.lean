/-
  Seat b5709a: reorder (14).
-/
import Derived.Test.YbulkdnfcDown
namespace Go.Proofs.Ybulkdnfc
open Go.RowKit
set_option linter.unusedVariables false

theorem mem_at0 {L : Array Nat} {x : Nat} (h : x ∈ L) : ∃ k, k < L.size ∧ at0 L k = x := by
  obtain ⟨k, hk, he⟩ := Array.mem_iff_getElem.1 h
  exact ⟨k, hk, by simp [at0, Array.getD, hk, he]⟩

set_option maxHeartbeats 2000000 in
theorem reorder_any (c : Cfg) (ok : c.Ok) (w : World) (Q g cap : Nat) (f : Nat → Value) (J : Nat → Int) (L : Array Nat) (hL : L.size ≤ 4096) (hids : Ids c L) (h : QM c w Q g L.size cap f J) (hA : Holds c f L) (hInj : Inj L) :
    Calls Yba.prog 14 #[.pointer (some ⟨Q, 0, none⟩)] w fun e w' => e = .returned (.tuple #[]) ∧ ∃ (L' : Array Nat) (f' : Nat → Value) (J' : Nat → Int), L'.Perm L ∧ QM c w' Q g L.size cap f' J' ∧ Holds c f' L' ∧ HeapFrom c L' 0 ∧ Inj L' ∧ Idx L' J' ∧ Out L J J' ∧ Kept (Tq c Q g) w w' := by
  have hnc := h.nc
  have hq := h.q
  obtain ⟨n, hn⟩ : ∃ n, n = L.size := ⟨_, rfl⟩
  rw [← hn] at h hq hL hnc ⊢
  have HN : Hid (n = L.size) := hn
  clear hn
  go_enter Yba.func14, Yba.ntmps14
  go_wp2
  clear hq
  go_loopw [10] (fun v wr => ∃ (k : Nat) (J1 : Nat → Int), k ≤ n ∧ v = .int .i64 k ∧ Hid ((∀ k', k' < k → J1 (at0 L k') = (k' : Int)) ∧ Out L J J1) ∧ QM c wr Q g n cap f J1 ∧ Kept (Tq c Q g) w wr) (fun v _ => n - (intOf v).toNat)
  case atStart => exact ⟨0, J, Nat.zero_le _, rfl, ⟨fun k' hk' => by omega, fun _ _ => rfl⟩, h, Kept.refl _ _⟩
  case round =>
    obtain ⟨k, J1, hkn, rfl, hJ, hM, hK⟩ := hrel
    by_cases hlt : k < n
    · have hki : (k : Int) < (n : Int) := by omega
      obtain ⟨y, hy⟩ : ∃ y, y = at0 L k := ⟨_, rfl⟩
      have HY : Hid (y = at0 L k) := hy
      have hym : y < c.m := by rw [hy]; exact hids _ (by have := HN.out; omega)
      obtain ⟨e0, e1, e2, e3, e4⟩ := entry_cells (c := c) hM.row k y (by have := hM.nc; omega) (fun t ht => by rw [hy]; exact hA _ (by have := HN.out; omega) t ht)
      clear hy
      go_wp2_with fail
      have hb1 := (Below.refl wr.heap.size wr).alloc (Nat.le_refl _) (Obj.cells #[.int .u64 (wall (c.at_ y)), .int .i64 (ext (c.at_ y)), .pointer none, .int .u64 (c.rk y), .pointer (some ⟨c.IB y, 0, none⟩)] 41)
      obtain ⟨w2, hw2⟩ : ∃ w2, w2 = wr.alloc (Obj.cells #[.int .u64 (wall (c.at_ y)), .int .i64 (ext (c.at_ y)), .pointer none, .int .u64 (c.rk y), .pointer (some ⟨c.IB y, 0, none⟩)] 41) := ⟨_, rfl⟩
      rw [← hw2] at hb1 ⊢
      clear hw2
      have hM2 := hM.below hb1
      have hK2 : Kept (Tq c Q g) w w2 := hK.trans (Kept.of_below hb1)
      clear e0 e1 e2 e3 e4 hM hK hb1
      have i2 := (hM2.it y hym).c2
      have f2 := (hM2.it y hym).f2
      rw [andThen_known (r := ((41 : FuncId), Value.pointer (some ⟨c.IB y, 0, none⟩))) (w' := w2) (by kernel_rfl)]
      go_wp2
      go_end0
      go_wp2
      go_roundw
      case rel =>
        have hks : k < L.size := by have := HN.out; omega
        refine ⟨k + 1, _, by omega, by simp, ⟨fun k' hk' => ?_, ?_⟩, hM2.putIdx ok y hym k, hK2.setCell (.inr (.inr ⟨y, hym, rfl⟩)) _⟩
        · by_cases e : k' = k
          · subst e; rw [← HY.out, upd_same]
          · rw [upd_other _ _ _ _ (fun he => e (hInj k' k (by have := HN.out; omega) hks (by rw [he, HY.out])))]
            exact hJ.out.1 k' (by omega)
        · exact hJ.out.2.upd (by rw [HY.out]; exact at0_mem hks) _
      case measure => simp [intOf]; omega
    · obtain rfl : k = n := by omega
      have hq := hM.q
      go_wp2
      clear hq
      go_loopw [4] (fun v wr' => ∃ (s : Nat) (f1 : Nat → Value) (J2 : Nat → Int) (L1 : Array Nat), s ≤ k ∧ v = .int .i64 ((s : Int) - 1) ∧ Hid (L1.size = k ∧ L1.Perm L ∧ Ids c L1 ∧ Holds c f1 L1 ∧ HeapFrom c L1 s ∧ Inj L1 ∧ Idx L1 J2 ∧ Out L J J2) ∧ QM c wr' Q g k cap f1 J2 ∧ Kept (Tq c Q g) w wr') (fun v _ => (intOf v + 1).toNat)
      case atStart =>
        refine ⟨k / 2, f, J1, L, by omega, by simp, ⟨HN.out.symm, Array.Perm.refl _, hids, hA, fun k' hk' h0 hs => ?_, hInj, fun k' hk' => hJ.out.1 k' (by have := HN.out; omega), hJ.out.2⟩, hM, hK⟩
        exfalso; have := HN.out; omega
      case round =>
        obtain ⟨s, f1, J2, L1, hsk, rfl, hW, hM2, hK2⟩ := hrel
        clear hM hK h hA hids hInj
        by_cases hs0 : 0 < s
        · obtain ⟨i, rfl⟩ : ∃ i, s = i + 1 := ⟨s - 1, by omega⟩
          have hi0 : ((i + 1 : Nat) : Int) - 1 = (i : Int) := by omega
          rw [hi0]
          obtain ⟨q1, q2, q3, q4, q5, q6, q7, q8⟩ := hW.out
          go_wp2_with fail
          refine (down_any c ok _ Q g cap f1 J2 L1 i (by omega) (by omega) q3 (by rw [q1]; exact hM2) q4 q5 q6 q7).mono ?_
          rintro e w4 ⟨⟨b, rfl⟩, L', f', J', p1, p2, p3, p4, p5, p6, p7, p8⟩
          rw [q1] at p2
          have HP : Hid (L'.Perm L1 ∧ Holds c f' L' ∧ HeapFrom c L' i ∧ Inj L' ∧ Idx L' J' ∧ Out L1 J2 J') := ⟨p1, p3, p4, p5, p6, p7⟩
          clear p1 p3 p4 p5 p6 p7 q1 q2 q3 q4 q5 q6 q7 q8
          go_wp2
          go_roundw
          case rel =>
            obtain ⟨q1, q2, q3, q4, q5, q6, q7, q8⟩ := hW.out
            obtain ⟨p1, p3, p4, p5, p6, p7⟩ := HP.out
            refine ⟨i, f', J', L', by omega, rfl, ⟨p1.size_eq.trans q1, p1.trans q2, fun k' hk' => ?_, p3, p4, p5, p6, fun id hid => ?_⟩, p2, hK2.trans p8⟩
            · obtain ⟨a, ha, he⟩ := mem_at0 (p1.mem_iff.1 (at0_mem hk'))
              rw [← he]; exact q3 a ha
            · rw [p7 id (fun hm => hid (q2.mem_iff.1 hm))]; exact q8 id hid
          case measure => simp [intOf]
        · obtain rfl : s = 0 := by omega
          go_wp2
          go_end0
          obtain ⟨q1, q2, q3, q4, q5, q6, q7, q8⟩ := hW.out
          exact ⟨rfl, L1, f1, J2, q2, hM2, q4, q5, q6, q7, q8, hK2⟩

end Go.Proofs.Ybulkdnfc
