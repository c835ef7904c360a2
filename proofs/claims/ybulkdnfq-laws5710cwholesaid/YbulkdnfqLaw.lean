/-
  Seat b5710a: the law's function (3).
-/
import Derived.Test.YbulkdnfqStage
namespace Go.Proofs.Ybulkdnfq
open Go.RowKit
set_option linter.unusedVariables false

set_option maxHeartbeats 8000000 in
set_option maxRecDepth 100000 in
theorem law_any (w : World) (aa : Option Addr) (n ca : Nat) (name : ByteArray) (sel vv : Int) (c : Cfg) (hM : Ms w aa n c) (hs0 : 0 ≤ sel) (hs1 : sel ≤ 255) (hnn : n ≤ 9223372036854775807) :
    Calls Yba.prog 3 #[.slice aa n ca, .string name, .int .u8 sel, .int .i64 vv] w fun e w' => e = .returned (.bool true) ∧ Below w.heap.size w w' := by
  by_cases hbig : 1048576 < n
  · have hbi : (1048576 : Int) < (n : Int) := by omega
    go_enter Yba.func3, Yba.ntmps3
    go_wp2
    go_ret
    exact ⟨rfl, Below.refl _ _⟩
  · have hbi : ¬ (1048576 : Int) < (n : Int) := by omega
    have hn : n ≤ 1048576 := by omega
    have hmk := run_make_mem n hn
    go_enter Yba.func3, Yba.ntmps3
    go_upto_region 4 with fail
    go_cut [33] (fun v wx => w = wx ∧ ∃ b : Bool, v = .bool b ∧ Hid (b = true → 0 < n))
    case first =>
      by_cases h0 : 0 < n
      · have h0i : (0 : Int) < (n : Int) := by omega
        go_wp2
        go_meet
        case rel => exact ⟨rfl, _, rfl, fun _ => h0⟩
      · obtain rfl : n = 0 := by omega
        go_wp2
        go_meet
        case rel => exact ⟨rfl, _, rfl, fun h => by cases h⟩
    case rest =>
      obtain ⟨rfl, b, rfl, hb⟩ := hcut
      go_upto_if 33 with fail
      go_cut [9] (fun v wx => w = wx ∧ ∃ tg : ByteArray, v = .string tg)
      case first =>
        cases hbb : b with
        | true =>
          subst hbb
          have h0 := hb.out rfl
          have h0i : (0 : Int) < (n : Int) := by omega
          obtain ⟨ba, oa, rfl, hc⟩ := hM.spot h0
          obtain ⟨i, hi⟩ : ∃ i : Nat, (sel / 3) % (n : Int) = (i : Int) := ⟨((sel / 3) % (n : Int)).toNat, by have := Int.emod_nonneg (sel / 3) (show (n : Int) ≠ 0 by omega); omega⟩
          have hin : i < n := by have := Int.emod_lt_of_pos (sel / 3) h0i; omega
          have hini : (i : Int) < (n : Int) := by omega
          have hci := (hc i hin).1
          clear hc
          go_wp2
          go_meet
          case rel => exact ⟨rfl, _, rfl⟩
        | false =>
          subst hbb
          go_wp2
          go_meet
          case rel => exact ⟨rfl, _, rfl⟩
      case rest =>
        obtain ⟨rfl, tg, rfl⟩ := hcut
        go_wp2
        have hb1 := (Below.refl w.heap.size w).alloc (Nat.le_refl _) (Obj.cells #[.int .i64 vv] 3)
        have hb2 := hb1.alloc hb1.size (Obj.cells #[.slice none 0 0, .bool false, .pointer (some ⟨w.heap.size, 0, none⟩)] 29)
        have hb3 := hb2.alloc hb2.size (Obj.cells (madeCells zeroM (n * 9)) 41)
        have hrow := row_start ((w.alloc (Obj.cells #[.int .i64 vv] 3)).alloc (Obj.cells #[.slice none 0 0, .bool false, .pointer (some ⟨w.heap.size, 0, none⟩)] 29)) n
        rw [show ((w.alloc (Obj.cells #[.int .i64 vv] 3)).alloc (Obj.cells #[.slice none 0 0, .bool false, .pointer (some ⟨w.heap.size, 0, none⟩)] 29)).heap.size = w.heap.size + 1 + 1 by simp] at hrow
        obtain ⟨w1, hw1⟩ : ∃ w1, w1 = ((w.alloc (Obj.cells #[.int .i64 vv] 3)).alloc (Obj.cells #[.slice none 0 0, .bool false, .pointer (some ⟨w.heap.size, 0, none⟩)] 29)).alloc (Obj.cells (madeCells zeroM (n * 9)) 41) := ⟨_, rfl⟩
        have hx1 : w1.cell? ⟨w.heap.size, 0, none⟩ = some (.int .i64 vv) := by rw [hw1]; simp [go_sem]
        have hrec : Rec w1 (w.heap.size + 1) w.heap.size := by
          rw [hw1]
          exact ⟨by simp [go_sem], by simp [go_sem], by simp [go_sem], by simp [go_sem]⟩
        rw [← hw1] at hb3 hrow ⊢
        clear hw1 hmk hb1 hb2
        generalize hMB : w.heap.size + 1 + 1 = MB at hrow ⊢
        generalize hRB : w.heap.size + 1 = RB at hrec hMB ⊢
        generalize hXB : w.heap.size = XB at hrec hRB hx1 ⊢
        have HB : Hid (RB + 1 = MB ∧ XB + 1 = RB ∧ w.heap.size = XB) := ⟨hMB, hRB, hXB⟩
        clear hMB hRB hXB
        go_loopw [14] (fun v wr => ∃ (k : Nat) (c' : Cfg) (f : Nat → Value), k ≤ n ∧ v = .int .i64 k ∧ Hid (c'.N = c.N ∧ c'.O = c.O ∧ c'.Z = c.Z ∧ ∀ j, j < k → MB < c'.F j) ∧ Mems c' wr MB RB n f k ∧ Rec wr RB XB ∧ wr.cell? ⟨XB, 0, none⟩ = some (.int .i64 vv) ∧ Below w.heap.size w wr) (fun v _ => n - (intOf v).toNat)
        case atStart => exact ⟨0, c, _, Nat.zero_le _, rfl, ⟨rfl, rfl, rfl, fun j hj => absurd hj (Nat.not_lt_zero _)⟩, ⟨hrow, fun j hj => absurd hj (Nat.not_lt_zero _), fun j hj => absurd hj (Nat.not_lt_zero _), fun j hj => absurd hj (Nat.not_lt_zero _), fun j hj => absurd hj (Nat.not_lt_zero _), fun j hj => absurd hj (Nat.not_lt_zero _)⟩, hrec, hx1, hb3⟩
        case round =>
          obtain ⟨k, c', f, hkn, rfl, hc', hMm, hR, hX, hbw⟩ := hrel
          clear hrow hrec hx1 hb3
          by_cases hlt : k < n
          · have hki : (k : Int) < (n : Int) := by omega
            obtain ⟨ba, oa, rfl, hc⟩ := hM.spot (by omega)
            obtain ⟨m0, m1, m2⟩ := hc k hlt
            have n0 := (hbw.cell (cell_lt m0)).trans m0
            have n1 := (hbw.cell (cell_lt m1)).trans m1
            have n2 := (hbw.cell (cell_lt m2)).trans m2
            have bd : Below wr.heap.size wr wr.drew := (Below.refl _ _).drew
            have S0c : Hid (wr.drew.cell? ⟨ba, oa + k * 3, none⟩ = some (.string (c.N k)) ∧ wr.drew.cell? ⟨ba, oa + k * 3 + 1, none⟩ = some (.bool (c.O k)) ∧ wr.drew.cell? ⟨ba, oa + k * 3 + 2, none⟩ = some (.bool (c.Z k))) := by
              simp only [World.cell?_drew]
              exact ⟨n0, n1, n2⟩
            have hbaM : Hid (ba ≠ MB) := by
              show _ ≠ _
              have h1 := cell_lt m0
              have h2 := HB.out
              simp at h1
              omega
            clear hc
            go_upto_region 13 with fail
            go_region_held3 (fun w' => w'.cell? ⟨ba, oa + k * 3, none⟩ = some (.string (c.N k)) ∧ w'.cell? ⟨ba, oa + k * 3 + 1, none⟩ = some (.bool (c.O k)) ∧ w'.cell? ⟨ba, oa + k * 3 + 2, none⟩ = some (.bool (c.Z k)))
              (first | with_reducible exact S0c.out | with_reducible exact S1c.out | with_reducible exact S2c.out)
              (first
                | (go_at_call 4; refine (mk_at _ RB k (c.Z k)).mono ?_; rintro e wa ⟨F, rfl, hFl, f0, f1, f2, hba⟩; have BA : Below wr.heap.size wr wa := bd.trans hba; have RW := hMm.row.of_block (BA.block _ hMm.row.lt); have S1c : Hid (wa.cell? ⟨ba, oa + k * 3, none⟩ = some (.string (c.N k)) ∧ wa.cell? ⟨ba, oa + k * 3 + 1, none⟩ = some (.bool (c.O k)) ∧ wa.cell? ⟨ba, oa + k * 3 + 2, none⟩ = some (.bool (c.Z k))) := ⟨(BA.cell (cell_lt n0)).trans n0, (BA.cell (cell_lt n1)).trans n1, (BA.cell (cell_lt n2)).trans n2⟩; have mc0 : wa.cell? ⟨MB, k * 9, none⟩ = some (f (k * 9)) := RW.cell (by omega); have mf0 : wa.frozen? ⟨MB, k * 9, none⟩ = false := RW.frozen _; have mc1 : wa.cell? ⟨MB, k * 9 + 1, none⟩ = some (f (k * 9 + 1)) := RW.cell (by omega); have mf1 : wa.frozen? ⟨MB, k * 9 + 1, none⟩ = false := RW.frozen _; have mc2 : wa.cell? ⟨MB, k * 9 + 1 + 1, none⟩ = some (f (k * 9 + 1 + 1)) := RW.cell (by omega); have mf2 : wa.frozen? ⟨MB, k * 9 + 1 + 1, none⟩ = false := RW.frozen _; have mc3 : wa.cell? ⟨MB, k * 9 + 1 + 1 + 1, none⟩ = some (f (k * 9 + 1 + 1 + 1)) := RW.cell (by omega); have mf3 : wa.frozen? ⟨MB, k * 9 + 1 + 1 + 1, none⟩ = false := RW.frozen _; have mc4 : wa.cell? ⟨MB, k * 9 + 1 + 1 + 1 + 1, none⟩ = some (f (k * 9 + 1 + 1 + 1 + 1)) := RW.cell (by omega); have mf4 : wa.frozen? ⟨MB, k * 9 + 1 + 1 + 1 + 1, none⟩ = false := RW.frozen _; have mc5 : wa.cell? ⟨MB, k * 9 + 1 + 1 + 1 + 1 + 1, none⟩ = some (f (k * 9 + 1 + 1 + 1 + 1 + 1)) := RW.cell (by omega); have mf5 : wa.frozen? ⟨MB, k * 9 + 1 + 1 + 1 + 1 + 1, none⟩ = false := RW.frozen _; have mc6 : wa.cell? ⟨MB, k * 9 + 1 + 1 + 1 + 1 + 1 + 1, none⟩ = some (f (k * 9 + 1 + 1 + 1 + 1 + 1 + 1)) := RW.cell (by omega); have mf6 : wa.frozen? ⟨MB, k * 9 + 1 + 1 + 1 + 1 + 1 + 1, none⟩ = false := RW.frozen _; have mc7 : wa.cell? ⟨MB, k * 9 + 1 + 1 + 1 + 1 + 1 + 1 + 1, none⟩ = some (f (k * 9 + 1 + 1 + 1 + 1 + 1 + 1 + 1)) := RW.cell (by omega); have mf7 : wa.frozen? ⟨MB, k * 9 + 1 + 1 + 1 + 1 + 1 + 1 + 1, none⟩ = false := RW.frozen _; have mc8 : wa.cell? ⟨MB, k * 9 + 1 + 1 + 1 + 1 + 1 + 1 + 1 + 1, none⟩ = some (f (k * 9 + 1 + 1 + 1 + 1 + 1 + 1 + 1 + 1)) := RW.cell (by omega); have mf8 : wa.frozen? ⟨MB, k * 9 + 1 + 1 + 1 + 1 + 1 + 1 + 1 + 1, none⟩ = false := RW.frozen _; have S2c : Hid ((((((((((wa.setCell ⟨MB, k * 9, none⟩ (.string (c.N k))).setCell ⟨MB, k * 9 + 1, none⟩ (.slice none 0 0)).setCell ⟨MB, k * 9 + 2, none⟩ (.bool (c.O k))).setCell ⟨MB, k * 9 + 3, none⟩ (.nilFunc)).setCell ⟨MB, k * 9 + 4, none⟩ (.nilFunc)).setCell ⟨MB, k * 9 + 5, none⟩ (.nilFunc)).setCell ⟨MB, k * 9 + 6, none⟩ (.nilFunc)).setCell ⟨MB, k * 9 + 7, none⟩ (.func (.func 6) #[] #[.pointer (some ⟨F, 0, none⟩), .pointer (some ⟨F + 1, 0, none⟩), .pointer (some ⟨F + 1 + 1, 0, none⟩)])).setCell ⟨MB, k * 9 + 8, none⟩ (.nilFunc)).cell? ⟨ba, oa + k * 3, none⟩ = some (.string (c.N k)) ∧ (((((((((wa.setCell ⟨MB, k * 9, none⟩ (.string (c.N k))).setCell ⟨MB, k * 9 + 1, none⟩ (.slice none 0 0)).setCell ⟨MB, k * 9 + 2, none⟩ (.bool (c.O k))).setCell ⟨MB, k * 9 + 3, none⟩ (.nilFunc)).setCell ⟨MB, k * 9 + 4, none⟩ (.nilFunc)).setCell ⟨MB, k * 9 + 5, none⟩ (.nilFunc)).setCell ⟨MB, k * 9 + 6, none⟩ (.nilFunc)).setCell ⟨MB, k * 9 + 7, none⟩ (.func (.func 6) #[] #[.pointer (some ⟨F, 0, none⟩), .pointer (some ⟨F + 1, 0, none⟩), .pointer (some ⟨F + 1 + 1, 0, none⟩)])).setCell ⟨MB, k * 9 + 8, none⟩ (.nilFunc)).cell? ⟨ba, oa + k * 3 + 1, none⟩ = some (.bool (c.O k)) ∧ (((((((((wa.setCell ⟨MB, k * 9, none⟩ (.string (c.N k))).setCell ⟨MB, k * 9 + 1, none⟩ (.slice none 0 0)).setCell ⟨MB, k * 9 + 2, none⟩ (.bool (c.O k))).setCell ⟨MB, k * 9 + 3, none⟩ (.nilFunc)).setCell ⟨MB, k * 9 + 4, none⟩ (.nilFunc)).setCell ⟨MB, k * 9 + 5, none⟩ (.nilFunc)).setCell ⟨MB, k * 9 + 6, none⟩ (.nilFunc)).setCell ⟨MB, k * 9 + 7, none⟩ (.func (.func 6) #[] #[.pointer (some ⟨F, 0, none⟩), .pointer (some ⟨F + 1, 0, none⟩), .pointer (some ⟨F + 1 + 1, 0, none⟩)])).setCell ⟨MB, k * 9 + 8, none⟩ (.nilFunc)).cell? ⟨ba, oa + k * 3 + 2, none⟩ = some (.bool (c.Z k))) := s9 wa MB _ _ _ _ _ _ _ _ _ _ _ _ _ _ _ _ _ _ hbaM.out S1c.out))
            obtain ⟨w3, hw3⟩ : ∃ w3, w3 = (((((((((wa.setCell ⟨MB, k * 9, none⟩ (.string (c.N k))).setCell ⟨MB, k * 9 + 1, none⟩ (.slice none 0 0)).setCell ⟨MB, k * 9 + 2, none⟩ (.bool (c.O k))).setCell ⟨MB, k * 9 + 3, none⟩ (.nilFunc)).setCell ⟨MB, k * 9 + 4, none⟩ (.nilFunc)).setCell ⟨MB, k * 9 + 5, none⟩ (.nilFunc)).setCell ⟨MB, k * 9 + 6, none⟩ (.nilFunc)).setCell ⟨MB, k * 9 + 7, none⟩ (.func (.func 6) #[] #[.pointer (some ⟨F, 0, none⟩), .pointer (some ⟨F + 1, 0, none⟩), .pointer (some ⟨F + 1 + 1, 0, none⟩)])).setCell ⟨MB, k * 9 + 8, none⟩ (.nilFunc)) := ⟨_, rfl⟩
            rw [← hw3]
            have hset := hw3.trans (chain9 wa MB (k * 9) _ _ _ _ _ _ _ _ _)
            have HS : Hid _ := hset
            have HFl : Hid (wr.heap.size ≤ F) := hFl
            have HBA : Hid _ := BA
            clear S0c S1c S2c hw3 hset mc0 mc1 mc2 mc3 mc4 mc5 mc6 mc7 mc8 mf0 mf1 mf2 mf3 mf4 mf5 mf6 mf7 mf8 n0 n1 n2 m0 m1 m2
            go_wp2
            go_roundw
            case rel =>
              obtain ⟨q1, q2, q3, q4⟩ := hc'.out
              obtain ⟨h1, h2, h3⟩ := HB.out
              have hMBl := hMm.row.lt
              have hK3 : Kept (fun k => k = MB) wa w3 := by rw [HS.out]; exact kept_setCells _ _ wa wa (Kept.refl _ _)
              obtain ⟨f', hM3⟩ := (hMm.below HBA.out).step (w3 := w3) (F := F) hlt f0 f1 (by rw [q3]; exact f2) (by have := HFl.out; omega) (by have := HFl.out; omega) q4 (by rw [q1, q2]; exact HS.out)
              have hR3 : Rec w3 RB XB := by
                have r := hR.below HBA.out
                have hRl := cell_lt r.r0
                refine ⟨hK3.cell r.r0 (by show ¬ _ = _; simp; omega), (World.frozen?_of_block (hK3.block _ hRl (by show ¬ _ = _; simp; omega))).trans r.rf, hK3.cell r.r1 (by show ¬ _ = _; simp; omega), hK3.cell r.r2 (by show ¬ _ = _; simp; omega)⟩
              have hX2 := (HBA.out.cell (cell_lt hX)).trans hX
              refine ⟨k + 1, c'.grow k F, f', by omega, by simp, ⟨q1, q2, q3, fun j hj => ?_⟩, hM3, hR3, hK3.cell hX2 (by show ¬ _ = _; simp; omega), ?_⟩
              · show MB < (if j = k then F else c'.F j)
                by_cases e : j = k
                · rw [if_pos e]; have := HFl.out; omega
                · rw [if_neg e]; exact q4 j (by omega)
              · exact (hbw.trans (HBA.out.mono hbw.size)).trans (hK3.below (by have := hbw.size; have := HBA.out.size; omega) (fun k hk => by rw [hk]; omega))
            case measure => simp [intOf]; omega
          · obtain rfl : k = n := by omega
            obtain ⟨q1, q2, q3, q4⟩ := hc'.out
            go_wp2_with fail
            have hb6 := (Below.refl wr.heap.size wr).alloc (Nat.le_refl _) (Obj.cells #[.slice (some ⟨MB, 0, none⟩) k k, .slice none 0 0, .bool false, .bool false, .pointer none, .nilFunc] 46)
            obtain ⟨w4, hw4⟩ : ∃ w4, w4 = wr.alloc (Obj.cells #[.slice (some ⟨MB, 0, none⟩) k k, .slice none 0 0, .bool false, .bool false, .pointer none, .nilFunc] 46) := ⟨_, rfl⟩
            rw [← hw4] at hb6 ⊢
            clear hw4
            have hM4 := hMm.below hb6
            have hR4 := hR.below hb6
            have hX4 := (hb6.cell (cell_lt hX)).trans hX
            have hbw4 : Below w.heap.size w w4 := hbw.trans (hb6.mono hbw.size)
            clear hMm hR hX hbw hb6 hbi hbig
            have HC : Hid (c'.N = c.N ∧ c'.O = c.O ∧ c'.Z = c.Z) := ⟨q1, q2, q3⟩
            clear q1 q2 q3 q4 hc'
            refine (writes_any c' w4 MB RB XB k f tg hn hM4 hR4).mono ?_
            rintro e w5 (⟨rfl, hnone, hb5⟩ | ⟨j, hjk, hbef, heq, ⟨hO, rfl, hb5⟩ | ⟨hO, rfl, hK5, g, cap, g0, g1, g2⟩⟩)
            · have hR5 := hR4.below hb5
              have hX5 := (hb5.cell (cell_lt hX4)).trans hX4
              have hbw5 : Below w.heap.size w w5 := hbw4.trans (hb5.mono hbw4.size)
              have HNo : Hid (∀ j, j < k → (c.N j).toList ≠ tg.toList) := fun j hj => by rw [← HC.out.1]; exact hnone j hj
              clear hnone hb5 hM4 hR4 hX4 hbw4
              go_wp2
              go_loopw [17, 18] (fun v17 v18 wx => ∃ i : Nat, i ≤ k ∧ v17 = .int .i64 (-1) ∧ v18 = .int .i64 i ∧ w5 = wx) (fun _ v _ => k - (intOf v).toNat)
              case atStart => exact ⟨0, Nat.zero_le _, rfl, rfl, rfl⟩
              case round =>
                obtain ⟨i, hik, rfl, rfl, rfl⟩ := hrel
                by_cases hlt2 : i < k
                · have hii : (i : Int) < (k : Int) := by omega
                  obtain ⟨ba, oa, rfl, hc⟩ := hM.spot (by omega)
                  have m0 := (hbw5.cell (cell_lt (hc i hlt2).1)).trans (hc i hlt2).1
                  have he : ((c.N i).toList == tg.toList) = false := by rw [beq_eq_false_iff_ne]; exact HNo.out i hlt2
                  clear hc
                  go_wp2
                  exact ⟨⟨i + 1, by omega, by simp, by simp, trivial⟩, by simp [intOf]; omega⟩
                · obtain rfl : i = k := by omega
                  have r0 := hR5.r0
                  have r1 := hR5.r1
                  go_wp2
                  go_loopw [21] (fun v wx => v = .int .i64 0 ∧ w5 = wx) (fun _ _ => 0)
                  case atStart => exact ⟨rfl, rfl⟩
                  case round =>
                    obtain ⟨rfl, rfl⟩ := hrel
                    go_wp2
                    go_ret
                    exact ⟨rfl, hbw5⟩
            · have hR5 := hR4.below hb5
              have hX5 := (hb5.cell (cell_lt hX4)).trans hX4
              have hbw5 : Below w.heap.size w w5 := hbw4.trans (hb5.mono hbw4.size)
              have HNo : Hid ((∀ i, i < j → (c.N i).toList ≠ tg.toList) ∧ (c.N j).toList = tg.toList ∧ c.O j = false) := by
                obtain ⟨z1, z2, z3⟩ := HC.out
                exact ⟨fun i hi => by rw [← z1]; exact hbef i hi, by rw [← z1]; exact heq, by rw [← z2]; exact hO⟩
              clear hb5 hM4 hR4 hX4 hbw4 hbef heq hO
              obtain ⟨ba, oa, rfl, hc⟩ := hM.spot (by omega)
              have HMS : Hid _ := hc
              clear hc
              go_wp2
              go_loopw [17, 18] (fun v17 v18 wx => ∃ i : Nat, i ≤ j ∧ v17 = .int .i64 (-1) ∧ v18 = .int .i64 i ∧ w5 = wx) (fun _ v _ => k - (intOf v).toNat)
              case atStart => exact ⟨0, Nat.zero_le _, rfl, rfl, rfl⟩
              case round =>
                obtain ⟨i, hij, rfl, rfl, rfl⟩ := hrel
                have hii : (i : Int) < (k : Int) := by omega
                have m0 := (hbw5.cell (cell_lt (HMS.out i (by omega)).1)).trans (HMS.out i (by omega)).1
                by_cases hlt2 : i < j
                · have he : ((c.N i).toList == tg.toList) = false := by rw [beq_eq_false_iff_ne]; exact HNo.out.1 i hlt2
                  go_wp2
                  exact ⟨⟨i + 1, by omega, by simp, by simp, trivial⟩, by simp [intOf]; omega⟩
                · obtain rfl : i = j := by omega
                  have he : ((c.N i).toList == tg.toList) = true := by rw [HNo.out.2.1]; exact beq_self_eq_true _
                  have m1 := (hbw5.cell (cell_lt (HMS.out i (by omega)).2.1)).trans (HMS.out i (by omega)).2.1
                  rw [HNo.out.2.2] at m1
                  have r0 := hR5.r0
                  have r1 := hR5.r1
                  go_wp2
                  go_loopw [21] (fun v wx => v = .int .i64 0 ∧ w5 = wx) (fun _ _ => 0)
                  case atStart => exact ⟨rfl, rfl⟩
                  case round =>
                    obtain ⟨rfl, rfl⟩ := hrel
                    go_wp2
                    go_ret
                    exact ⟨rfl, hbw5⟩
            · obtain ⟨h1, h2, h3⟩ := HB.out
              have hX5 := hK5.cell hX4 (by show ¬ _ = _; simp; omega)
              have hbw5 : Below w.heap.size w w5 := hbw4.trans (hK5.below hbw4.size (fun k hk => by rw [hk]; omega))
              have HNo : Hid ((∀ i, i < j → (c.N i).toList ≠ tg.toList) ∧ (c.N j).toList = tg.toList ∧ c.O j = true ∧ c'.Z j = c.Z j) := by
                obtain ⟨z1, z2, z3⟩ := HC.out
                exact ⟨fun i hi => by rw [← z1]; exact hbef i hi, by rw [← z1]; exact heq, by rw [← z2]; exact hO, by rw [z3]⟩
              rw [HNo.out.2.2.2]
              clear hK5 hM4 hR4 hX4 hbw4 hbef heq hO h1 h2 h3
              obtain ⟨ba, oa, rfl, hc⟩ := hM.spot (by omega)
              have HMS : Hid _ := hc
              clear hc
              go_wp2
              go_loopw [17, 18] (fun v17 v18 wx => ∃ i : Nat, i ≤ j ∧ v17 = .int .i64 (-1) ∧ v18 = .int .i64 i ∧ w5 = wx) (fun _ v _ => k - (intOf v).toNat)
              case atStart => exact ⟨0, Nat.zero_le _, rfl, rfl, rfl⟩
              case round =>
                obtain ⟨i, hij, rfl, rfl, rfl⟩ := hrel
                have hii : (i : Int) < (k : Int) := by omega
                have m0 := (hbw5.cell (cell_lt (HMS.out i (by omega)).1)).trans (HMS.out i (by omega)).1
                by_cases hlt2 : i < j
                · have he : ((c.N i).toList == tg.toList) = false := by rw [beq_eq_false_iff_ne]; exact HNo.out.1 i hlt2
                  go_wp2
                  exact ⟨⟨i + 1, by omega, by simp, by simp, trivial⟩, by simp [intOf]; omega⟩
                · obtain rfl : i = j := by omega
                  have he : ((c.N i).toList == tg.toList) = true := by rw [HNo.out.2.1]; exact beq_self_eq_true _
                  have m1 := (hbw5.cell (cell_lt (HMS.out i (by omega)).2.1)).trans (HMS.out i (by omega)).2.1
                  rw [HNo.out.2.2.1] at m1
                  have m2 := (hbw5.cell (cell_lt (HMS.out i (by omega)).2.2)).trans (HMS.out i (by omega)).2.2
                  go_upto_region 29 with fail
                  have hb7 := (Below.refl w5.heap.size w5).alloc (Nat.le_refl _) (Obj.cells #[.int .i64 (i : Int)] 3)
                  obtain ⟨w7, hw7⟩ : ∃ w7, w7 = w5.alloc (Obj.cells #[.int .i64 (i : Int)] 3) := ⟨_, rfl⟩
                  have y0 : w7.cell? ⟨w5.heap.size, 0, none⟩ = some (.int .i64 (i : Int)) := by rw [hw7]; simp [go_sem]
                  rw [← hw7] at hb7 ⊢
                  have gg0 := (hb7.cell (cell_lt g0)).trans g0
                  have gg1 := (hb7.cell (cell_lt g1)).trans g1
                  have gg2 := (hb7.cell (cell_lt g2)).trans g2
                  have X7 := (hb7.cell (cell_lt hX5)).trans hX5
                  have hbw7 : Below w.heap.size w w7 := hbw5.trans (hb7.mono hbw5.size)
                  clear hw7 hb7 g0 g1 g2 hX5 m0 m1 m2
                  generalize w5.heap.size = YB at y0 ⊢
                  cases hz : c.Z i with
                  | true =>
                    go_wp2
                    go_loopw [21] (fun v wx => ∃ t : Nat, t ≤ 1 ∧ v = .int .i64 t ∧ Below w7.heap.size w7 wx) (fun v _ => 1 - (intOf v).toNat)
                    case atStart => exact ⟨0, Nat.zero_le _, rfl, Below.refl _ _⟩
                    case round =>
                      obtain ⟨t, ht1, rfl, hbt⟩ := hrel
                      have a0 := (hbt.cell (cell_lt gg0)).trans gg0
                      have a1 := (hbt.cell (cell_lt gg1)).trans gg1
                      have a2 := (hbt.cell (cell_lt y0)).trans y0
                      clear gg0 gg1 gg2 X7 y0
                      by_cases ht : t = 0
                      · subst ht
                        go_wp2
                        go_quiet (fail)
                        go_wp2
                        go_roundw
                        case rel => exact ⟨1, Nat.le_refl _, by simp, below_drewN hbt _⟩
                        case measure => simp [intOf]
                      · obtain rfl : t = 1 := by omega
                        go_wp2
                        go_ret
                        exact ⟨rfl, hbw7.trans (hbt.mono hbw7.size)⟩
                  | false =>
                    go_wp2
                    go_loopw [21] (fun v wx => ∃ t : Nat, t ≤ 1 ∧ v = .int .i64 t ∧ Below w7.heap.size w7 wx) (fun v _ => 1 - (intOf v).toNat)
                    case atStart => exact ⟨0, Nat.zero_le _, rfl, Below.refl _ _⟩
                    case round =>
                      obtain ⟨t, ht1, rfl, hbt⟩ := hrel
                      have a0 := (hbt.cell (cell_lt gg0)).trans gg0
                      have a1 := (hbt.cell (cell_lt gg1)).trans gg1
                      have a2 := (hbt.cell (cell_lt y0)).trans y0
                      clear gg0 gg1 gg2 X7 y0
                      by_cases ht : t = 0
                      · subst ht
                        go_wp2
                        go_quiet (fail)
                        go_wp2
                        go_roundw
                        case rel => exact ⟨1, Nat.le_refl _, by simp, below_drewN hbt _⟩
                        case measure => simp [intOf]
                      · obtain rfl : t = 1 := by omega
                        go_wp2
                        go_ret
                        exact ⟨rfl, hbw7.trans (hbt.mono hbw7.size)⟩
end Go.Proofs.Ybulkdnfq
