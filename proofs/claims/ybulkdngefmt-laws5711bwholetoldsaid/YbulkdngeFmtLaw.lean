/-
  Seat b5711aF: the law's function (3).
-/
import Derived.Test.YbulkdngeFmtPTwo
namespace Go.Proofs.YbulkdngeFmt
open Go.RowKit Go.Extern.Stop Go.Stop Go.Extern
set_option linter.unusedVariables false

set_option maxHeartbeats 8000000 in
set_option maxRecDepth 100000 in
theorem law_big (w : World) (a0 a1 a2 : Option Addr) (n0 c0 n1 c1 n2 c2 : Nat) (pm pv : Int) (h : 65536 < n0 ∨ 65536 < n1 ∨ 1048576 < n2) :
    Calls Ybaf.prog 3 #[.slice a0 n0 c0, .slice a1 n1 c1, .slice a2 n2 c2, .int .u8 pm, .int .i64 pv] w fun e w' => e = .returned (.bool true) ∧ Below w.heap.size w w' := by
  by_cases h0 : 65536 < n0
  · have h0i : (65536 : Int) < (n0 : Int) := by omega
    clear h
    go_enter Ybaf.func3, Ybaf.ntmps3
    go_wp2
    exact bodyPost_ret (v := .bool true) (by simp [results, Ybaf.results3]) rfl ⟨rfl, Below.refl _ _⟩
  · have h0i : ¬ (65536 : Int) < (n0 : Int) := by omega
    by_cases h1 : 65536 < n1
    · have h1i : (65536 : Int) < (n1 : Int) := by omega
      clear h
      go_enter Ybaf.func3, Ybaf.ntmps3
      go_wp2
      exact bodyPost_ret (v := .bool true) (by simp [results, Ybaf.results3]) rfl ⟨rfl, Below.refl _ _⟩
    · have h1i : ¬ (65536 : Int) < (n1 : Int) := by omega
      have h2i : (1048576 : Int) < (n2 : Int) := by omega
      clear h
      go_enter Ybaf.func3, Ybaf.ntmps3
      go_wp2
      exact bodyPost_ret (v := .bool true) (by simp [results, Ybaf.results3]) rfl ⟨rfl, Below.refl _ _⟩

set_option maxHeartbeats 8000000 in
set_option maxRecDepth 100000 in
theorem law_any (F : Interp) (w : World) (a0 a1 a2 : Option Addr) (n0 c0 n1 c1 n2 c2 : Nat) (pm pv : Int) (C : Nat → Cel) (cs zs : List Int) (hF : F.answers w.tape)
    (hC : Cells w a0 n0 C) (hR1 : Row w a1 n1 c1 cs) (hR2 : Row w a2 n2 c2 zs) (hn0 : n0 ≤ 65536) (hn1 : n1 ≤ 65536) (hn2 : n2 ≤ 1048576) (hpm0 : 0 ≤ pm) (hpm1 : pm ≤ 255)
    (hcs : ∀ j, j < n1 → 0 ≤ cs.getD j 0 ∧ cs.getD j 0 ≤ 255) (hq : ∀ j, j < n0 → 0 ≤ (C j).q ∧ (C j).q ≤ 255 ∧ -9223372036854775808 ≤ (C j).i ∧ (C j).i ≤ 9223372036854775807 ∧ (C j).fb < 18446744073709551616 ∧ (C j).s.size ≤ 140737488355328) :
    Calls Ybaf.prog 3 #[.slice a0 n0 c0, .slice a1 n1 c1, .slice a2 n2 c2, .int .u8 pm, .int .i64 pv] w fun e w' => e = .returned (.bool true) ∧ Below w.heap.size w w' := by
  have h0i : ¬ (65536 : Int) < (n0 : Int) := by omega
  have h1i : ¬ (65536 : Int) < (n1 : Int) := by omega
  have h2i : ¬ (1048576 : Int) < (n2 : Int) := by omega
  have HCS : Hid _ := hcs
  have HQ : Hid _ := hq
  clear hcs hq
  go_enter Ybaf.func3, Ybaf.ntmps3
  go_wp2
  go_loopw [11, 12] (fun v11 v12 wr => w = wr ∧ ∃ (k T : Nat), k ≤ n0 ∧ v12 = .int .i64 (k : Int) ∧ v11 = .int .i64 (T : Int) ∧ T ≤ 1048576 ∧ Hid (∀ j, j < k → (C j).s.size ≤ T)) (fun _ v12 _ => n0 - (intOf v12).toNat)
  case atStart => exact ⟨rfl, 0, 0, Nat.zero_le _, rfl, rfl, by omega, fun j hj => absurd hj (Nat.not_lt_zero _)⟩
  case round =>
    obtain ⟨rfl, k, T, hk, rfl, rfl, hT, hS⟩ := hrel
    by_cases hlt : k < n0
    · have hki : (k : Int) < (n0 : Int) := by omega
      obtain ⟨b, off, rfl, hc⟩ := hC.spot (by omega)
      have hck := (hc k hlt).2.2.2
      have hck2 : w.cell? ⟨b, off + k * 4 + 3, none⟩ = some (.string (C k).s) := by
        rw [show off + k * 4 + 3 = off + k * 4 + 1 + 1 + 1 by omega]; exact hck
      have hsz := (HQ.out k hlt).2.2.2.2.2
      clear hc hck
      by_cases hbig : 1048576 < T + (C k).s.size
      · have hbi : (1048576 : Int) < (T : Int) + ((C k).s.size : Int) := by omega
        go_wp2
        exact bodyPost_ret (v := .bool true) (by simp [results, Ybaf.results3]) rfl ⟨rfl, Below.refl _ _⟩
      · have hbi : ¬ (1048576 : Int) < (T : Int) + ((C k).s.size : Int) := by omega
        go_wp2
        refine ⟨⟨trivial, k + 1, T + (C k).s.size, hlt, by simp, by simp, by omega, fun j hj => ?_⟩, by simp [intOf]; omega⟩
        by_cases e : j = k
        · subst e; omega
        · have := hS.out j (by omega); omega
    · obtain rfl : k = n0 := by omega
      have OK : Hid (∀ j, j < k → (C j).Ok) := fun j hj => by
        obtain ⟨q0, q1, i0, i1, f1, _⟩ := HQ.out j hj
        exact ⟨q0, q1, i0, i1, f1, by have := hS.out j hj; omega⟩
      clear HQ hS hlt
      have hmk := run_make_vals k hn0
      have hrow := vrow_start w k
      have hb1 := (Below.refl w.heap.size w).alloc (Nat.le_refl _) (Obj.cells (madeCells zeroV (k * 4)) 30)
      go_wp2
      obtain ⟨w1, hw1⟩ : ∃ w1, w1 = w.alloc (Obj.cells (madeCells zeroV (k * 4)) 30) := ⟨_, rfl⟩
      rw [← hw1] at hb1 hrow ⊢
      clear hw1 hmk
      generalize hRR : w.heap.size = R at hrow hb1 ⊢
      have HR : Hid (w.heap.size = R) := hRR
      clear hRR
      go_loopw [14] (fun v14 wr => ∃ (j : Nat) (f : Nat → Value), j ≤ k ∧ v14 = .int .i64 (j : Int) ∧ Filled wr R k C f j ∧ Below R w wr) (fun v14 _ => k - (intOf v14).toNat)
      case atStart => exact ⟨0, _, Nat.zero_le _, rfl, ⟨hrow, fun j hj => absurd hj (Nat.not_lt_zero _)⟩, hb1⟩
      case round =>
        obtain ⟨j, f, hj, rfl, hFl, hbw⟩ := hrel
        clear hrow hb1
        by_cases hlt : j < k
        · have hji : (j : Int) < (k : Int) := by omega
          obtain ⟨b, off, rfl, hc⟩ := hC.spot (by omega)
          obtain ⟨e0, e1, e2, e3⟩ := hc j hlt
          have d0 := (hbw.cell (by rw [← HR.out]; exact cell_lt e0)).trans e0
          have d1 := (hbw.cell (by rw [← HR.out]; exact cell_lt e1)).trans e1
          have d2 := (hbw.cell (by rw [← HR.out]; exact cell_lt e2)).trans e2
          have d3 := (hbw.cell (by rw [← HR.out]; exact cell_lt e3)).trans e3
          clear hc e0 e1 e2 e3
          go_wp2_with fail
          refine (value_any wr (C j) (OK.out j hlt)).mono ?_
          rintro e wa ⟨rfl, hba⟩
          have hst := store_float .f64 (C j).vf
          have RW := hFl.row.of_block (hba.block _ hFl.row.lt)
          have FA : Filled wa R k C f j := ⟨RW, hFl.el⟩
          have mc0 : wa.cell? ⟨R, j * 4, none⟩ = some (f (j * 4)) := RW.cell (by omega)
          have mf0 : wa.frozen? ⟨R, j * 4, none⟩ = false := RW.frozen _
          have mc1 : wa.cell? ⟨R, j * 4 + 1, none⟩ = some (f (j * 4 + 1)) := RW.cell (by omega)
          have mf1 : wa.frozen? ⟨R, j * 4 + 1, none⟩ = false := RW.frozen _
          have mc2 : wa.cell? ⟨R, j * 4 + 1 + 1, none⟩ = some (f (j * 4 + 1 + 1)) := RW.cell (by omega)
          have mf2 : wa.frozen? ⟨R, j * 4 + 1 + 1, none⟩ = false := RW.frozen _
          have mc3 : wa.cell? ⟨R, j * 4 + 1 + 1 + 1, none⟩ = some (f (j * 4 + 1 + 1 + 1)) := RW.cell (by omega)
          have mf3 : wa.frozen? ⟨R, j * 4 + 1 + 1 + 1, none⟩ = false := RW.frozen _
          have hbA := hbw.trans (hba.mono (by have := hFl.row.lt; omega))
          clear d0 d1 d2 d3 RW hFl hba hbw
          go_wp2
          rw [chain4]
          obtain ⟨f', hf'⟩ := FA.step hlt rfl
          exact ⟨⟨j + 1, f', hlt, by simp, hf', below_setCells (Nat.le_refl _) _ _ _ hbA⟩, by simp [intOf]; omega⟩
        · obtain rfl : j = k := by omega
          obtain ⟨wv, rfl⟩ : ∃ wv, wv = wr := ⟨_, rfl⟩
          have hV := hFl.vals
          have hRl := hFl.row.lt
          clear hFl hlt
          go_upto_if 77 with fail
          go_cut [15] (fun v15 wx => ∃ (m : Nat) (ks : Nat → Nat), OI wx wv.heap.size v15 ks m ∧ Hid (∀ i, i < m → ks i < j) ∧ m ≤ 65536 ∧ Below wv.heap.size wv wx)
          case first =>
            by_cases h0 : 0 < j
            · have hd : decide (0 < j) = true := decide_eq_true h0
              simp only [hd]
              clear hd
              go_wp2
              go_loopw [15, 16] (fun v15 v16 wx => ∃ i : Nat, i ≤ n1 ∧ v16 = .int .i64 (i : Int) ∧ OI wx wv.heap.size v15 (fun t => (cs.getD t 0).toNat % j) i ∧ Below wv.heap.size wv wx) (fun _ v16 _ => n1 - (intOf v16).toNat)
              case atStart => exact ⟨0, Nat.zero_le _, rfl, ⟨⟨rfl, .inl ⟨rfl, rfl⟩⟩, Nat.le_refl _⟩, Below.refl _ _⟩
              case round =>
                obtain ⟨i, hi, rfl, hOI, hbx⟩ := hrel
                by_cases hlt : i < n1
                · have hii : (i : Int) < (n1 : Int) := by omega
                  obtain ⟨b, off, rfl, hc⟩ := hR1.spot (by omega)
                  have e0 := hc i hlt
                  have d0 := (hbw.cell (by rw [← HR.out]; exact cell_lt e0)).trans e0
                  have d1 := (hbx.cell (cell_lt d0)).trans d0
                  obtain ⟨g0, g1⟩ := HCS.out i hlt
                  have HV : Hid ((RowKit.wrap64 (cs[i]?.getD 0)).tmod (j : Int) = (((cs.getD i 0).toNat % j : Nat) : Int)) := col_val _ j g0 g1
                  obtain ⟨i0, hi0, hz0, hz1, hz2⟩ := info_parts Ybaf.info3
                  have NW : Hid _ := newsI wr ((cs.getD i 0).toNat % j)
                  have hb1 := (Below.refl wr.heap.size wr).alloc (Nat.le_refl _) (Obj.cells #[.int .i64 (((cs.getD i 0).toNat % j : Nat) : Int)] 3)
                  clear hc e0 d0
                  go_wp2_with (at_builtin; rw [HV.out]; refine wpList_append_own _ rfl _ _ 32 rfl wv.heap.size 3 i0 (.int .i64 0) 1 8 Ybaf.underlying32 hi0 hz0 hz1 hz2 rfl (by decide) _ i _ rfl (hOI.below hb1).own ⟨wr.heap.size, 0, none⟩ 1 1 [.int .i64 (((cs.getD i 0).toNat % j : Nat) : Int)] rfl rfl NW.out (by intro u hu; simp at hu; subst hu; rfl) (by unfold maxLen; omega) (by omega) (Nat.le_trans hbx.size hb1.size) ?_; intro v5 w5 hown hgrow hnil)
                  have hB5 := (hbx.trans (hb1.mono hbx.size)).grown hgrow (Nat.le_trans hbx.size hb1.size) (fun q hq => (hOI.ge hq).1)
                  have O5 : OI w5 wv.heap.size v5 (fun t => (cs.getD t 0).toNat % j) (i + 1) := ⟨hown, hB5.size⟩
                  clear hown hgrow hnil hb1 NW HV d1
                  go_roundw
                  case rel => exact ⟨i + 1, hlt, by simp, O5, hB5⟩
                  case measure => simp [intOf]; omega
                · obtain rfl : i = n1 := by omega
                  go_wp2
                  go_meet
                  case rel => exact ⟨i, _, hOI, fun t ht => Nat.mod_lt _ h0, hn1, hbx⟩
            · obtain rfl : j = 0 := by omega
              go_wp2
              go_meet
              case rel => exact ⟨0, fun _ => 0, ⟨⟨rfl, .inl ⟨rfl, rfl⟩⟩, Nat.le_refl _⟩, fun t ht => absurd ht (Nat.not_lt_zero _), by omega, Below.refl _ _⟩
          case rest =>
            rename_i hgo
            obtain ⟨m, ks, hOI, hks, hm, hbx⟩ := hcut
            obtain ⟨ac, cc, rfl, hCols⟩ := hOI.cols
            have hBc := hbw.trans (hbx.mono (Nat.le_of_lt hRl))
            rw [← HR.out] at hBc
            have hVc := hV.below hbx
            exact hgo _ _ (p2 F w wc a0 a2 ac j c0 n2 c2 m cc R pm pv C ks zs hF hC hR2 OK.out hn0 hn2 hpm0 hpm1 hBc hVc hCols hks.out hm)
end Go.Proofs.YbulkdngeFmt
