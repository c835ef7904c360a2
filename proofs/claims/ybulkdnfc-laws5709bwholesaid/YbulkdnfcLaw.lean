/-
  Seat b5709a: the law's function (3).
-/
import Derived.Test.YbulkdnfcStage1
import Derived.Deep.DeepCutAuto
namespace Go.Proofs.Ybulkdnfc
open Go.RowKit
set_option linter.unusedVariables false

def preF (L : Array Nat) (i j : Nat) : Value := if j < i then .int .i64 (at0 L j : Nat) else .int .i64 0
theorem preF_set (L : Array Nat) (i : Nat) : (fun j => if j = i then Value.int .i64 (at0 L i : Nat) else preF L i j) = preF L (i + 1) := by
  funext j
  unfold preF
  by_cases e : j = i
  · subst e; rw [if_pos rfl, if_pos (by omega)]
  · rw [if_neg e]
    by_cases e2 : j < i
    · rw [if_pos e2, if_pos (by omega)]
    · rw [if_neg e2, if_neg (by omega)]

def keepF (W : Nat → Bool) (i j : Nat) : Value := if j < i then .bool (!W j) else .bool false
theorem keepF_set (W : Nat → Bool) (i : Nat) : (fun j => if j = i then Value.bool (!W i) else keepF W i j) = keepF W (i + 1) := by
  funext j
  unfold keepF
  by_cases e : j = i
  · subst e; rw [if_pos rfl, if_pos (by omega)]
  · rw [if_neg e]
    by_cases e2 : j < i
    · rw [if_pos e2, if_pos (by omega)]
    · rw [if_neg e2, if_neg (by omega)]

def cntK (W : Nat → Bool) (i : Nat) : Nat := ((List.range i).filter (fun x => !W x)).length
theorem cntK_le (W : Nat → Bool) (i : Nat) : cntK W i ≤ i := Nat.le_trans (List.length_filter_le _ _) (by simp)
theorem cntK_keep (W : Nat → Bool) (i : Nat) (h : W i = false) : cntK W (i + 1) = cntK W i + 1 := by
  simp [cntK, List.range_succ, List.filter_append, h]
theorem cntK_drop (W : Nat → Bool) (i : Nat) (h : W i = true) : cntK W (i + 1) = cntK W i := by
  simp [cntK, List.range_succ, List.filter_append, h]

theorem log_cells {w : World} {LB B : Nat} {v : Value} {L : Array Nat} (h : LM w LB B v L.toList) (hn : 0 < L.size) : ∃ gl capl, v = .slice (some ⟨gl, 0, none⟩) L.size capl ∧ gl < w.heap.size ∧ ∀ t, t < L.size → w.cell? ⟨gl, t, none⟩ = some (.int .i64 (at0 L t : Nat)) := by
  rcases h.own.2 with ⟨_, h0⟩ | ⟨g, cap, cur, rfl, hB, hh, hnc, hcm, hcs, htk⟩
  · rw [Array.length_toList] at h0; omega
  · refine ⟨g, cap, by simp, h.lt g rfl, fun t ht => ?_⟩
    have e1 : (lgCells L.toList)[t]? = some (.int .i64 (at0 L t : Nat)) := by simp [lgCells, at0, Array.getD, ht]
    rw [← htk, List.getElem?_take_of_lt (by simp; omega)] at e1
    unfold World.cell?
    rw [hh]
    simpa using e1

def seenF (l : List Nat) (i j : Nat) : Value := .bool (decide (j ∈ l.take i))
theorem seenF_set (L : Array Nat) (i : Nat) (hi : i < L.size) : (fun j => if j = at0 L i then Value.bool true else seenF L.toList i j) = seenF L.toList (i + 1) := by
  funext j
  unfold seenF
  rw [take_snoc L i hi]
  by_cases e : j = at0 L i
  · subst e; rw [if_pos rfl]; simp
  · rw [if_neg e]; simp [e]

set_option maxHeartbeats 8000000 in
set_option maxRecDepth 100000 in
theorem law_pos (w : World) (aa ar ad : Option Addr) (n ca nr cr nd cd : Nat) (A R : Nat → Int) (D : Nat → Bool) (hA : Nums .i8 w aa n A) (hR : Nums .u8 w ar nr R) (hD : Dels w ad nd D) (hn0 : 0 < n) (hn : n ≤ 4096) (hnr : nr ≤ 9223372036854775807) (hnd : nd ≤ 9223372036854775807)
    (hAb : ∀ k, k < n → -128 ≤ A k ∧ A k ≤ 127) (hRb : ∀ k, k < nr → 0 ≤ R k ∧ R k ≤ 255) :
    Calls Yba.prog 3 #[.slice aa n ca, .slice ar nr cr, .slice ad nd cd] w fun e w' => e = .returned (.bool true) ∧ Below w.heap.size w w' := by
  have hn4 : ¬ (4096 : Int) < (n : Int) := by omega
  have hmk1 := run_make_items n hn
  go_enter Yba.func3, Yba.ntmps3
  go_wp2
  obtain ⟨hP0, hb0⟩ := P1.start w n ad nd cd D A (rkOf nr R) hD hnd
  obtain ⟨w1, hw1⟩ : ∃ w1, w1 = ((w.alloc (Obj.cells #[.slice ad nd cd] 24)).alloc (Obj.cells (madeCells #[.pointer none] n) 31)).alloc (Obj.cells #[.slice none 0 0] 29) := ⟨_, rfl⟩
  rw [← hw1] at hP0 hb0 ⊢
  clear hw1 hmk1
  obtain ⟨ba, oa, rfl, _, _⟩ := hA.spot hn0
  generalize hQ : w.heap.size + 1 + 1 = Q at hP0 ⊢
  generalize hIA : w.heap.size + 1 = IA at hP0 hQ ⊢
  generalize hDB : w.heap.size = DB at hP0 hIA ⊢
  have HQ : Hid (IA + 1 = Q ∧ DB + 1 = IA ∧ w.heap.size = DB) := ⟨hQ, hIA, hDB⟩
  have HA : Hid (∀ k, k < n → -128 ≤ A k ∧ A k ≤ 127) := hAb
  have HR : Hid (∀ k, k < nr → 0 ≤ R k ∧ R k ≤ 255) := hRb
  clear hQ hIA hDB hAb hRb
  go_loopw [10] (fun v wr => ∃ (c : Cfg) (J : Nat → Int) (L : Array Nat) (vq : Value), c.m ≤ n ∧ Hid (c.at_ = A ∧ c.rk = rkOf nr R) ∧ v = .int .i64 (c.m : Nat) ∧ P1 wr IA DB IA Q n ad nd cd D c J L vq ∧ Below w.heap.size w wr) (fun v _ => n - (intOf v).toNat)
  case atStart => exact ⟨_, _, _, _, Nat.zero_le _, ⟨rfl, rfl⟩, rfl, hP0, hb0⟩
  case round =>
    obtain ⟨c, J, L, vq, hmn, hcA, rfl, hP, hb⟩ := hrel
    clear hP0 hb0
    obtain ⟨k, hk⟩ : ∃ k, k = c.m := ⟨_, rfl⟩
    have HK : Hid (k = c.m) := hk
    rw [← hk] at hmn ⊢
    clear hk
    by_cases hlt : k < n
    · have hki : (k : Int) < (n : Int) := by omega
      have hak := HA.out k hlt
      obtain ⟨ba', oa', e, _, hc⟩ := (hA.below hb).spot hn0
      obtain ⟨rfl, rfl⟩ : ba = ba' ∧ oa = oa' := by simpa using e
      have hck := hc k hlt
      clear hc e
      go_upto_if 42 with fail
      go_cut [11] (fun v wx => wr = wx ∧ v = .int .u64 (rkOf nr R k))
      case first =>
        by_cases hr0 : 0 < nr
        · have hri : (0 : Int) < (nr : Int) := by omega
          obtain ⟨br, or', rfl, _, hc⟩ := (hR.below hb).spot hr0
          have hm0 : (0 : Int) ≤ (k : Int) % (nr : Int) := Int.emod_nonneg _ (by omega)
          have hm1 : (k : Int) % (nr : Int) < (nr : Int) := Int.emod_lt_of_pos _ hri
          have hcr : wr.cell? ⟨br, or' + ((k : Int) % (nr : Int)).toNat, none⟩ = some (.int .u8 (R (k % nr))) := by
            rw [show ((k : Int) % (nr : Int)).toNat = k % nr by omega]; exact hc _ (Nat.mod_lt _ hr0)
          have hcr' : wr.cell? ⟨br, or' + k % nr, none⟩ = some (.int .u8 (R (k % nr))) := hc _ (Nat.mod_lt _ hr0)
          have hrb := HR.out (k % nr) (Nat.mod_lt _ hr0)
          have hrk : Hid (rkOf nr R k = R (k % nr)) := by show _ = _; rw [rkOf, if_pos hr0]
          clear hc
          go_wp2
          go_meet
          case rel => exact ⟨rfl, by rw [hrk.out]⟩
        · obtain rfl : nr = 0 := by omega
          go_wp2
          go_meet
          case rel => exact ⟨rfl, by simp [rkOf]⟩
      case rest =>
        obtain ⟨rfl, rfl⟩ := hcut
        have hia : ∀ o, (wr.alloc o).cell? ⟨IA, k, none⟩ = some (ptrCell c.IB c.m k) := fun o => (((Below.refl wr.heap.size wr).alloc (Nat.le_refl _) o).cell hP.row.lt).trans (hP.row.cell hlt)
        have hif : ∀ o, (wr.alloc o).frozen? ⟨IA, k, none⟩ = false := fun o => (((Below.refl wr.heap.size wr).alloc (Nat.le_refl _) o).frozen hP.row.lt).trans (hP.row.frozen _)
        have hrb : 0 ≤ rkOf nr R k ∧ rkOf nr R k ≤ 255 := by
          unfold rkOf
          split
          · next h => exact HR.out _ (Nat.mod_lt _ h)
          · omega
        have HRB : Hid _ := hrb
        have HAK : Hid _ := hak
        clear hrb
        go_wp2_with fail
        obtain ⟨pre, hbel, hrow, hdm, hsz⟩ := hP.pre (by have := HK.out; omega) hn (by rw [hcA.out.1, ← HK.out]; exact HAK.out) (by rw [hcA.out.2, ← HK.out]; exact HRB.out)
        have he : pushW wr IA c.m (c.at_ c.m) (c.rk c.m) = (wr.alloc (Obj.cells #[.int .i64 (A k), .int .u64 (rkOf nr R k), .int .i64 (-1), .int .i64 (k : Int)] 34)).setCell ⟨IA, k, none⟩ (.pointer (some ⟨wr.heap.size, 0, none⟩)) := by
          unfold pushW
          rw [hcA.out.1, hcA.out.2, ← HK.out]
        obtain ⟨w2, hw2⟩ : ∃ w2, w2 = (wr.alloc (Obj.cells #[.int .i64 (A k), .int .u64 (rkOf nr R k), .int .i64 (-1), .int .i64 (k : Int)] 34)).setCell ⟨IA, k, none⟩ (.pointer (some ⟨wr.heap.size, 0, none⟩)) := ⟨_, rfl⟩
        rw [he, ← hw2] at pre hbel hrow hdm hsz
        rw [← hw2]
        clear hw2 he hia hif hck
        obtain ⟨c', hc'⟩ : ∃ c', c' = c.grow wr.heap.size := ⟨_, rfl⟩
        have hIBk : c'.IB k = wr.heap.size := by rw [hc', HK.out, grow_new]
        rw [← hc'] at pre hrow
        have hcm : c'.m = k + 1 := by rw [hc', HK.out]; rfl
        have HPU := push_any c' pre.ok w2 Q (Q + 1) vq (upd J c.m (-1)) L k (by omega) (by have := hP.size; have := HK.out; omega) pre.ids pre.q pre.qf pre.own pre.it pre.qv pre.b pre.iv pre.iq
        rw [hIBk] at HPU
        refine HPU.mono ?_
        rintro e w3 ⟨rfl, g, cap, L', f', J', hp, hM, hH, hK3, hg⟩
        have hP3 := hP.post hc' pre hrow hdm hsz (by rw [← HK.out]; exact hp) hM hH hK3 hg
        have hb3 : Below w.heap.size w w3 := by
          have q := HQ.out
          have hQlt : Q < w2.heap.size := by have := pre.b; omega
          have b1 : Below w.heap.size wr w2 := hbel.mono (by omega)
          have b2 : Below w.heap.size w2 w3 := hK3.below (by omega) (fun b hb => by
            rcases hb with rfl | hb | ⟨id, hid, rfl⟩
            · omega
            · rcases pre.own.2 with ⟨h0, _⟩ | ⟨g', cap', cur, h0, hB, _⟩
              · rw [h0] at hb; simp [Value.ownBlock] at hb
              · rw [h0] at hb; simp [Value.ownBlock] at hb; omega
            · have := hP3.ib id hid; omega)
          exact (hb.trans b1).trans b2
        have HC : Hid (c'.at_ = A ∧ c'.rk = rkOf nr R ∧ c'.m = k + 1) := ⟨by rw [hc']; exact hcA.out.1, by rw [hc']; exact hcA.out.2, hcm⟩
        clear pre hrow hdm hsz hp hM hH hK3 hg HPU hbel hIBk hcm hc' hP
        go_wp2
        go_roundw
        case rel =>
          refine ⟨c', _, _, _, by have := HC.out.2.2; omega, ⟨HC.out.1, HC.out.2.1⟩, by rw [HC.out.2.2]; simp, hP3, hb3⟩
        case measure => simp [intOf]; omega
    · obtain rfl : k = n := by omega
      have hst := hP.st.resolve_left (by have := HK.out; omega)
      obtain ⟨g, cap, f, rfl, hgQ, hM, hH⟩ := hst
      rw [← HK.out] at hM
      have hq := hM.q
      have hLs : L.size = k := by rw [hP.size, HK.out]
      have hmk2 := run_make_ints k hn
      go_wp2
      have hbp := (Below.refl wr.heap.size wr).alloc (Nat.le_refl _) (Obj.cells (madeCells #[.int .i64 0] k) 3)
      have hrp := World.rowIs_made wr (.int .i64 0) k 3
      have hrp0 : (fun _ => Value.int .i64 0) = preF L 0 := by funext j; simp [preF]
      rw [hrp0] at hrp
      obtain ⟨w2, hw2⟩ : ∃ w2, w2 = wr.alloc (Obj.cells (madeCells #[.int .i64 0] k) 3) := ⟨_, rfl⟩
      rw [← hw2] at hbp hrp ⊢
      clear hw2 hmk2 hrp0 hq
      have hPB : ∀ x, x < wr.heap.size → x ≠ wr.heap.size := fun x hx => by omega
      generalize hPBe : wr.heap.size = PB at hrp ⊢
      have HPB : Hid (wr.heap.size = PB) := hPBe
      clear hPBe hPB
      go_loopw [14] (fun v wx => ∃ i : Nat, i ≤ k ∧ v = .int .i64 i ∧ Below wr.heap.size wr wx ∧ wx.rowIs PB 3 k (preF L i)) (fun v _ => k - (intOf v).toNat)
      case atStart => exact ⟨0, Nat.zero_le _, rfl, hbp, hrp⟩
      case round =>
        obtain ⟨i, hik, rfl, hbi, hri⟩ := hrel
        clear hbp hrp
        have hMi := hM.below hbi
        have hqi := hMi.q
        by_cases hlt2 : i < k
        · have hii : (i : Int) < (k : Int) := by omega
          obtain ⟨y, hy⟩ : ∃ y, y = at0 L i := ⟨_, rfl⟩
          have HY : Hid (y = at0 L i) := hy
          have hym : y < c.m := by rw [hy]; exact perm_ids hP.perm _ (by omega)
          obtain ⟨e0, e1, e2, e3, e4⟩ := entry_cells (c := c) hMi.row i y (by have := hMi.nc; omega) (fun t ht => by rw [hy]; exact hH _ (by omega) t ht)
          have i3 := (hMi.it y hym).c3
          have rc := hri.cell hlt2
          have rf := hri.frozen i
          clear hy
          go_wp2
          go_roundw
          case rel =>
            refine ⟨i + 1, by omega, by simp, hbi.setCell (by have := HPB.out; simp; omega) _, ?_⟩
            rw [← preF_set, ← HY.out]
            exact hri.set i _
          case measure => simp [intOf]; omega
        · obtain rfl : i = k := by omega
          have hmk3 := run_make_bools i hn
          have hbw : Below w.heap.size w wr := hb.trans (hbi.mono hb.size)
          have hdm := hP.dm.kept (T := fun _ => False) (Kept.of_below hbi) (fun k hk => hk.elim)
          have hrIA := hP.row.of_block (hbi.block _ hP.row.lt)
          have HLow : Hid ((Q < PB ∧ g < PB ∧ ∀ id, id < c.m → c.IB id < PB) ∧ IA < Q ∧ Q < g ∧ (∀ id, id < c.m → Q < c.IB id) ∧ IA < PB) := by
            have h0 := HPB.out
            have h1 := cell_lt hM.q
            have h2 := hM.row.lt
            have h3 := hP.row.lt
            simp at h1
            exact ⟨⟨by omega, by omega, fun id hid => by have := cell_lt (hM.it id hid).c0; simp at this; omega⟩, hP.iaq, hgQ, hP.ib, by omega⟩
          have hok := hP.ok
          have HPerm : Hid (L.toList.Perm (List.range c.m)) := hP.perm
          clear hM hP hbi HPB hb
          go_wp2
          have hbk := (Below.refl wr.heap.size wr).alloc (Nat.le_refl _) (Obj.cells (madeCells #[.bool false] i) 4)
          have hrk := World.rowIs_made wr (.bool false) i 4
          have hrk0 : (fun _ => Value.bool false) = keepF (wantB nd D) 0 := by funext j; simp [keepF]
          rw [hrk0] at hrk
          obtain ⟨w3, hw3⟩ : ∃ w3, w3 = wr.alloc (Obj.cells (madeCells #[.bool false] i) 4) := ⟨_, rfl⟩
          rw [← hw3] at hbk hrk ⊢
          clear hw3 hmk3 hrk0 hqi
          generalize hKBe : wr.heap.size = KB at hrk ⊢
          have HKB : Hid (wr.heap.size = KB) := hKBe
          clear hKBe
          obtain ⟨wB, hwB⟩ : ∃ wB, wB = wr := ⟨_, rfl⟩
          go_loopw [16, 17] (fun v16 v17 wx => ∃ j : Nat, j ≤ i ∧ v17 = .int .i64 j ∧ v16 = .int .i64 (cntK (wantB nd D) j : Nat) ∧ Below wB.heap.size wB wx ∧ wx.rowIs KB 4 i (keepF (wantB nd D) j)) (fun _ v _ => i - (intOf v).toNat)
          case atStart => exact ⟨0, Nat.zero_le _, rfl, rfl, by rw [hwB]; exact hbk, hrk⟩
          case round =>
            obtain ⟨j, hji, rfl, rfl, hbj, hrj⟩ := hrel
            rw [← hwB] at hMi hri hbw hdm hrIA HKB
            clear hbk hrk hwB
            have hdj := hdm.kept (T := fun _ => False) (Kept.of_below hbj) (fun k hk => hk.elim)
            have hcj := cntK_le (wantB nd D) j
            by_cases hlt3 : j < i
            · have hjii : (j : Int) < (i : Int) := by omega
              have dc := hdj.cell
              go_wp2_with fail
              refine (want_any _ ad nd cd D j hdj.dels hnd (by omega)).mono ?_
              rintro e wz ⟨rfl, rfl⟩
              have rc := hrj.cell hlt3
              have rf := hrj.frozen j
              cases hw : wantB nd D j with
              | true =>
                go_wp2
                go_roundw
                case rel =>
                  refine ⟨j + 1, by omega, by simp, by rw [cntK_drop _ _ hw], hbj.setCell (by have := HKB.out; simp; omega) _, ?_⟩
                  rw [← keepF_set, hw]
                  exact hrj.set j _
                case measure => simp [intOf]; omega
              | false =>
                go_wp2
                go_roundw
                case rel =>
                  refine ⟨j + 1, by omega, by simp, by rw [cntK_keep _ _ hw]; simp, hbj.setCell (by have := HKB.out; simp; omega) _, ?_⟩
                  rw [← keepF_set, hw]
                  exact hrj.set j _
                case measure => simp [intOf]; omega
            · obtain rfl : j = i := by omega
              have hqm := hMi.below hbj
              have hrp := hri.of_block (hbj.block _ hri.lt)
              have hrI := hrIA.of_block (hbj.block _ hrIA.lt)
              have hbw2 : Below w.heap.size w wr := hbw.trans (hbj.mono hbw.size)
              have HLK : Hid (PB < KB ∧ KB < wr.heap.size) := ⟨by have := hri.lt; have := HKB.out; omega, hrj.lt⟩
              clear hMi hri hrIA hbw hdm hbj HKB
              go_wp2_with fail
              have hbl := (Below.refl wr.heap.size wr).alloc (Nat.le_refl _) (Obj.cells #[.slice none 0 0] 36)
              obtain ⟨w4, hw4⟩ : ∃ w4, w4 = wr.alloc (Obj.cells #[.slice none 0 0] 36) := ⟨_, rfl⟩
              have lm0 : LM w4 wr.heap.size (wr.heap.size + 1) (.slice none 0 0) [] := by
                rw [hw4]
                exact ⟨by simp [go_sem], by simp [go_sem], ⟨rfl, .inl ⟨rfl, rfl⟩⟩, fun k hk => by simp [Value.ownBlock] at hk, fun k hk => by simp [Value.ownBlock] at hk, fun k hk => by simp [Value.ownBlock] at hk, by simp⟩
              rw [← hw4] at hbl ⊢
              clear hw4
              obtain ⟨⟨l1, l2, l3⟩, l4, l5, l6, l7⟩ := HLow.out
              have low : Low c Q g wr.heap.size (wr.heap.size + 1) IA := by
                have := HLK.out
                exact ⟨by omega, by omega, fun id hid => by have := l3 id hid; omega, by omega, by omega⟩
              have hcm : c.m = j := HK.out.symm
              have hRM := remove_any c hok w4 Q g cap wr.heap.size (wr.heap.size + 1) IA DB ad nd cd D f J L (.slice none 0 0) (by omega) (perm_ids HPerm.out) hH (perm_inj HPerm.out) (by rw [hLs]; exact hqm.below hbl) lm0 (hdj.kept (T := fun _ => False) (Kept.of_below hbl) (fun k hk => hk.elim)) low ⟨by omega, fun id hid => by have := l6 id hid; omega⟩
              refine hRM.mono ?_
              rintro e w5 ⟨rfl, L', f', J', v', p1, p2, p3, p4, p5, p6, p7, p8⟩
              have hTr : ∀ x, x < wr.heap.size → x ≠ Q → x ≠ g → (∀ id, id < c.m → x ≠ c.IB id) → ¬ Tr c Q g wr.heap.size x := by
                rintro x h1 h2 h3 h4 (h | h | h | ⟨id, hid, h⟩)
                · omega
                · exact h2 h
                · exact h3 h
                · exact h4 id hid h
              have rP5 := (hrp.of_block (hbl.block _ hrp.lt)).of_block (p8.block _ (by have := hbl.size; have := hrp.lt; omega) (hTr PB hrp.lt (by omega) (by omega) (fun id hid => by have := l3 id hid; omega)))
              have rK5 := (hrj.of_block (hbl.block _ hrj.lt)).of_block (p8.block _ (by have := hbl.size; have := hrj.lt; omega) (hTr KB hrj.lt (by have := HLK.out; omega) (by have := HLK.out; omega) (fun id hid => by have := l3 id hid; have := HLK.out; omega)))
              have rI5 := (hrI.of_block (hbl.block _ hrI.lt)).of_block (p8.block _ (by have := hbl.size; have := hrI.lt; omega) (hTr IA hrI.lt (by omega) (by omega) (fun id hid => by have := l6 id hid; omega)))
              have hb5 : Below w.heap.size w w5 := by
                have q := HQ.out
                refine (hbw2.trans (hbl.mono hbw2.size)).trans (p8.below (by have := hbl.size; have := hbw2.size; omega) ?_)
                rintro x (h | h | h | ⟨id, hid, h⟩)
                · have := hbw2.size; omega
                · omega
                · omega
                · have := l6 id hid; omega
              obtain ⟨gl, capl, rfl, hgl, hlog⟩ := log_cells p7 (by omega)
              have lc5 := p7.cell
              have HP5 : Hid (L'.toList.Perm (L.toList.filter (fun x => !wantB nd D x)) ∧ Holds c f' L' ∧ HeapFrom c L' 0 ∧ Idx L' J' ∧ ∀ id, id ∈ L → wantB nd D id = true → J' id = -1) := ⟨p1, p3, p4, p5, p6⟩
              have hqn := p2.q
              rw [hLs] at lc5
              have HLG : Hid (∀ t, t < j → w5.cell? ⟨gl, t, none⟩ = some (.int .i64 (at0 L t : Nat))) := fun t ht => hlog t (by omega)
              clear p1 p3 p4 p5 p6 p7 p8 hRM hTr hrp hrj hrI hqm lm0 hbl hbw2 hdj l1 l2 l3 l4 l5 l6 l7 low hlog hH hqn
              generalize wr.heap.size = LB at lc5 ⊢
              have hcn : cntK (wantB nd D) j = L'.size := by
                have h1 := HP5.out.1.length_eq
                have h2 := (HPerm.out.filter (fun x => !wantB nd D x)).length_eq
                rw [Array.length_toList] at h1
                rw [h1, h2, hcm]
                rfl
              rw [hcn] at hcj ⊢
              clear hcn
              obtain ⟨m, hm⟩ : ∃ m, m = L'.size := ⟨_, rfl⟩
              rw [← hm] at p2 hcj ⊢
              have HM : Hid (m = L'.size) := hm
              clear hm
              go_wp2
              obtain ⟨wC, hwC⟩ : ∃ wC, wC = w5 := ⟨_, rfl⟩
              go_loopw [19] (fun v wx => ∃ t : Nat, t ≤ j ∧ v = .int .i64 t ∧ Below wC.heap.size wC wx) (fun v _ => j - (intOf v).toNat)
              case atStart => exact ⟨0, Nat.zero_le _, rfl, by rw [hwC]; exact Below.refl _ _⟩
              case round =>
                obtain ⟨t, htj, rfl, hbt⟩ := hrel
                rw [← hwC] at p2 rP5 rK5 rI5 hb5 HLG lc5 hgl
                have lct := (hbt.cell (cell_lt lc5)).trans lc5
                by_cases hlt4 : t < j
                · have hti : (t : Int) < (j : Int) := by omega
                  obtain ⟨y, hy⟩ : ∃ y, y = at0 L t := ⟨_, rfl⟩
                  have hl0 := HLG.out t hlt4
                  have hl1 := (hbt.cell (cell_lt hl0)).trans hl0
                  have hp0 := rP5.cell hlt4
                  have hp1 := (hbt.cell (cell_lt hp0)).trans hp0
                  rw [show preF L j t = .int .i64 (at0 L t : Nat) by simp [preF, hlt4], ← hy] at hp1
                  rw [← hy] at hl1
                  clear hl0 hp0 hy
                  go_wp2
                  go_quiet (fail)
                  go_wp2
                  go_roundw
                  case rel => exact ⟨t + 1, by omega, by simp, below_drewN hbt _⟩
                  case measure => simp [intOf]; omega
                · obtain rfl : t = j := by omega
                  have q6 := p2.below hbt
                  have rK6 := rK5.of_block (hbt.block _ rK5.lt)
                  have rI6 := rI5.of_block (hbt.block _ rI5.lt)
                  have hb6 : Below w.heap.size w wr := hb5.trans (hbt.mono hb5.size)
                  have hq6 := q6.q
                  have hmk4 := run_make_bools t hn
                  clear hbt p2 rP5 rK5 rI5 hb5 HLG lc5 lct hgl hwC
                  go_wp2
                  have hbs := (Below.refl wr.heap.size wr).alloc (Nat.le_refl _) (Obj.cells (madeCells #[.bool false] t) 4)
                  have hrs := World.rowIs_made wr (.bool false) t 4
                  have hrs0 : (fun _ => Value.bool false) = seenF L'.toList 0 := by funext j; simp [seenF]
                  rw [hrs0] at hrs
                  obtain ⟨w7, hw7⟩ : ∃ w7, w7 = wr.alloc (Obj.cells (madeCells #[.bool false] t) 4) := ⟨_, rfl⟩
                  rw [← hw7] at hbs hrs ⊢
                  clear hw7 hmk4 hrs0 hq6
                  generalize hSBe : wr.heap.size = SB at hrs ⊢
                  have HSB : Hid (wr.heap.size = SB) := hSBe
                  clear hSBe
                  obtain ⟨wD, hwD⟩ : ∃ wD, wD = wr := ⟨_, rfl⟩
                  go_loopw [21] (fun v wx => ∃ s : Nat, s ≤ m ∧ v = .int .i64 s ∧ Below wD.heap.size wD wx ∧ wx.rowIs SB 4 t (seenF L'.toList s)) (fun v _ => m - (intOf v).toNat)
                  case atStart => exact ⟨0, Nat.zero_le _, rfl, by rw [hwD]; exact hbs, hrs⟩
                  case round =>
                    obtain ⟨s, hsm, rfl, hbx, hrx⟩ := hrel
                    rw [← hwD] at q6 rK6 rI6 hb6 HSB
                    clear hbs hrs hwD
                    have qx := q6.below hbx
                    have hqx := qx.q
                    have rKx := rK6.of_block (hbx.block _ rK6.lt)
                    by_cases hlt5 : s < m
                    · have hsi : (s : Int) < (m : Int) := by omega
                      obtain ⟨y, hy⟩ : ∃ y, y = at0 L' s := ⟨_, rfl⟩
                      have HY : Hid (y = at0 L' s) := hy
                      have hyL : y ∈ L'.toList := by rw [hy]; simpa using at0_mem (L := L') (k := s) (by have := HM.out; omega)
                      have hyf := List.mem_filter.1 (HP5.out.1.mem_iff.1 hyL)
                      have hyk : wantB nd D y = false := by simpa using hyf.2
                      have hym : y < c.m := by simpa using HPerm.out.mem_iff.1 hyf.1
                      have hyt : y < t := by omega
                      have hyn : y ∉ L'.toList.take s := by
                        intro hmem
                        obtain ⟨a, ha, he⟩ := List.mem_iff_getElem.1 hmem
                        have hnd : L'.toList.Nodup := HP5.out.1.nodup_iff.2 ((HPerm.out.nodup_iff.2 List.nodup_range).filter _)
                        have has : a < s := by simp at ha; omega
                        have := (inj_nodup.2 hnd) a s (by have := HM.out; omega) (by have := HM.out; omega) (by
                          rw [← hy, ← he]
                          simp [at0, Array.getD, show a < L'.size by have := HM.out; omega])
                        omega
                      have hJy : J' y = (s : Int) := by rw [hy]; exact HP5.out.2.2.2.1 s (by have := HM.out; omega)
                      obtain ⟨e0, e1, e2, e3, e4⟩ := entry_cells (c := c) qx.row s y (by have := qx.nc; omega) (fun t ht => by rw [hy]; exact HP5.out.2.1 _ (by have := HM.out; omega) t ht)
                      clear hy hyL hyf
                      go_upto_region 44 with fail
                      have hb8 := (Below.refl wr.heap.size wr).alloc (Nat.le_refl _) (Obj.cells #[.int .u64 (wall (c.at_ y)), .int .i64 (ext (c.at_ y)), .pointer none, .int .u64 (c.rk y), .pointer (some ⟨c.IB y, 0, none⟩)] 41)
                      obtain ⟨w8, hw8⟩ : ∃ w8, w8 = wr.alloc (Obj.cells #[.int .u64 (wall (c.at_ y)), .int .i64 (ext (c.at_ y)), .pointer none, .int .u64 (c.rk y), .pointer (some ⟨c.IB y, 0, none⟩)] 41) := ⟨_, rfl⟩
                      have hbox : BoxAt c w8 wr.heap.size y := by
                        refine ⟨?_, ?_, ?_, ?_, ?_⟩
                        all_goals (rw [hw8]; simp [go_sem])
                      rw [← hw8] at hb8 ⊢
                      clear hw8 e0 e1 e2 e3 e4
                      have q8 := qx.below hb8
                      have rK8 := rKx.of_block (hb8.block _ rKx.lt)
                      have rS8 := hrx.of_block (hb8.block _ hrx.lt)
                      have hbD : Below wD.heap.size wD w8 := hbx.trans (hb8.mono hbx.size)
                      have HN : Hid (SB < wr.heap.size ∧ wr.heap.size < w8.heap.size ∧ c.IB y < SB) := by
                        have h1 := cell_lt hbox.1
                        have h2 := cell_lt (q6.it y hym).c0
                        have h3 := HSB.out
                        simp at h1 h2
                        exact ⟨hrx.lt, h1, by omega⟩
                      clear hbx hqx qx rKx hrx hb8
                      generalize wr.heap.size = N at hbox HN ⊢
                      have hi8 := q8.it y hym
                      have i3 := hi8.c3
                      have b4 := hbox.2.2.2.2
                      have k8 := rK8.cell hyt
                      rw [show keepF (wantB nd D) t y = .bool true by simp [keepF, hyt, hyk]] at k8
                      have s8 := rS8.cell hyt
                      rw [show seenF L'.toList s y = .bool false by simp [seenF, hyn]] at s8
                      have sf := rS8.frozen y
                      have hy0 : ¬ (y : Int) < 0 := by omega
                      have hyi : ¬ (t : Int) ≤ (y : Int) := by omega
                      have hyti : (y : Int) < (t : Int) := by omega
                      go_upto_region 50 with fail
                      have hb9 : Below wD.heap.size wD (w8.setCell ⟨SB, y, none⟩ (.bool true)) := hbD.setCell (by have := HSB.out; simp; omega) _
                      have hK9 : Kept (fun k => k = SB) w8 (w8.setCell ⟨SB, y, none⟩ (.bool true)) := Kept.setCell (T := fun k => k = SB) (Kept.refl _ _) (p := ⟨SB, y, none⟩) rfl _
                      have rS9 := rS8.set y (.bool true)
                      obtain ⟨w9, hw9⟩ : ∃ w9, w9 = w8.setCell ⟨SB, y, none⟩ (.bool true) := ⟨_, rfl⟩
                      rw [← hw9] at hb9 hK9 rS9 ⊢
                      rw [HY.out, seenF_set L' s (by have := HM.out; omega)] at rS9
                      clear hw9 s8 sf k8 i3 b4 hi8
                      have q9 := q6.below hb9
                      have hi9 := q9.it y hym
                      have hbox9 := hbox.kept hK9 (by have := HN.out; show ¬ _ = _; omega)
                      clear hbox hK9 q8 rS8 rK8 hbD
                      have j0 := hi9.c0
                      have j1 := hi9.c1
                      have j2 := hi9.c2
                      rw [hJy] at j2
                      obtain ⟨b0, b1, b2, b3, b4⟩ := hbox9
                      have bd : Below w9.heap.size w9 w9.drew := (Below.refl _ _).drew
                      have alo := hok.lo y hym
                      have ahi := hok.hi y hym
                      have S0c : Hid (w9.drew.cell? ⟨N, 0, none⟩ = some (.int .u64 (wall (c.at_ y))) ∧ w9.drew.cell? ⟨N, 1, none⟩ = some (.int .i64 (ext (c.at_ y))) ∧ w9.drew.cell? ⟨N, 2, none⟩ = some (.pointer none) ∧ w9.drew.cell? ⟨N, 3, none⟩ = some (.int .u64 (c.rk y)) ∧ w9.drew.cell? ⟨c.IB y, 0, none⟩ = some (.int .i64 (c.at_ y)) ∧ w9.drew.cell? ⟨c.IB y, 1, none⟩ = some (.int .u64 (c.rk y))) := by
                        simp only [World.cell?_drew]
                        exact ⟨b0, b1, b2, b3, j0, j1⟩
                      go_upto_region 52 with fail
                      go_region_held3 (fun w' => w'.cell? ⟨N, 0, none⟩ = some (.int .u64 (wall (c.at_ y))) ∧ w'.cell? ⟨N, 1, none⟩ = some (.int .i64 (ext (c.at_ y))) ∧ w'.cell? ⟨N, 2, none⟩ = some (.pointer none) ∧ w'.cell? ⟨N, 3, none⟩ = some (.int .u64 (c.rk y)) ∧ w'.cell? ⟨c.IB y, 0, none⟩ = some (.int .i64 (c.at_ y)) ∧ w'.cell? ⟨c.IB y, 1, none⟩ = some (.int .u64 (c.rk y)))
                        (first | with_reducible exact S0c.out | with_reducible exact S1c.out | with_reducible exact S2c.out)
                        (first
                          | (go_at_call 9; refine (add_any _ (c.at_ y) alo ahi).mono ?_; rintro e wa ⟨rfl, ba1⟩; have BA : Below w9.heap.size w9 wa := bd.trans ba1; have S1c : Hid (wa.cell? ⟨N, 0, none⟩ = some (.int .u64 (wall (c.at_ y))) ∧ wa.cell? ⟨N, 1, none⟩ = some (.int .i64 (ext (c.at_ y))) ∧ wa.cell? ⟨N, 2, none⟩ = some (.pointer none) ∧ wa.cell? ⟨N, 3, none⟩ = some (.int .u64 (c.rk y)) ∧ wa.cell? ⟨c.IB y, 0, none⟩ = some (.int .i64 (c.at_ y)) ∧ wa.cell? ⟨c.IB y, 1, none⟩ = some (.int .u64 (c.rk y))) := ⟨(BA.cell (cell_lt b0)).trans b0, (BA.cell (cell_lt b1)).trans b1, (BA.cell (cell_lt b2)).trans b2, (BA.cell (cell_lt b3)).trans b3, (BA.cell (cell_lt j0)).trans j0, (BA.cell (cell_lt j1)).trans j1⟩)
                          | (go_at_call 8; refine (equal_any _ (c.at_ y) alo ahi).mono ?_; rintro e wb ⟨rfl, bb1⟩; have BB : Below w9.heap.size w9 wb := BA.trans (bb1.mono BA.size); have S2c : Hid (wb.cell? ⟨N, 0, none⟩ = some (.int .u64 (wall (c.at_ y))) ∧ wb.cell? ⟨N, 1, none⟩ = some (.int .i64 (ext (c.at_ y))) ∧ wb.cell? ⟨N, 2, none⟩ = some (.pointer none) ∧ wb.cell? ⟨N, 3, none⟩ = some (.int .u64 (c.rk y)) ∧ wb.cell? ⟨c.IB y, 0, none⟩ = some (.int .i64 (c.at_ y)) ∧ wb.cell? ⟨c.IB y, 1, none⟩ = some (.int .u64 (c.rk y))) := ⟨(BB.cell (cell_lt b0)).trans b0, (BB.cell (cell_lt b1)).trans b1, (BB.cell (cell_lt b2)).trans b2, (BB.cell (cell_lt b3)).trans b3, (BB.cell (cell_lt j0)).trans j0, (BB.cell (cell_lt j1)).trans j1⟩))
                      have qb := q9.below BB
                      have rSb := rS9.of_block (BB.block _ rS9.lt)
                      have hbb : Below wD.heap.size wD wb := hb9.trans (BB.mono hb9.size)
                      clear S0c S1c S2c b0 b1 b2 b3 b4 j0 j1 j2 q9 rS9 hb9 BB BA bb1 ba1 bd hi9
                      by_cases hs0 : 0 < s
                      · have hs0i : (0 : Int) < (s : Int) := by omega
                        obtain ⟨pp, hpp⟩ : ∃ pp, pp = (s - 1) / 2 := ⟨_, rfl⟩
                        have hpe : ((s : Int) - 1) / 2 = (pp : Int) := by omega
                        have hpn : pp < m := by omega
                        have hpi : (pp : Int) < (m : Int) := by omega
                        obtain ⟨z, hz⟩ : ∃ z, z = at0 L' pp := ⟨_, rfl⟩
                        have hzL : z ∈ L'.toList := by rw [hz]; simpa using at0_mem (L := L') (k := pp) (by have := HM.out; omega)
                        have hzm : z < c.m := by simpa using HPerm.out.mem_iff.1 (List.mem_filter.1 (HP5.out.1.mem_iff.1 hzL)).1
                        have hle : ltB c y z = false := by
                          have := HP5.out.2.2.1 s (by have := HM.out; omega) hs0 (Nat.zero_le _)
                          rw [← hpp, ← hz, ← HY.out] at this
                          exact this
                        obtain ⟨e0, e1, e2, e3, e4⟩ := entry_cells (c := c) qb.row pp z (by have := qb.nc; omega) (fun t ht => by rw [hz]; exact HP5.out.2.1 _ (by have := HM.out; omega) t ht)
                        have hqb := qb.q
                        clear hz hzL hpp
                        go_wp2_with fail
                        refine (less_any c _ y z _ _ (qb.it y hym) (qb.it z hzm)).mono ?_
                        rintro e wc ⟨rfl, kk, rfl⟩
                        rw [hle]
                        clear e0 e1 e2 e3 e4 hqb
                        go_wp2
                        go_roundw
                        case rel =>
                          exact ⟨s + 1, by omega, by simp, below_drewN hbb _, rSb.of_block ((below_drewN (Below.refl wb.heap.size wb) kk).block _ rSb.lt)⟩
                        case measure => simp [intOf]; omega
                      · obtain rfl : s = 0 := by omega
                        go_wp2
                        go_roundw
                        case rel => exact ⟨0 + 1, by omega, by simp, hbb, rSb⟩
                        case measure => simp [intOf]; omega
                    · obtain rfl : s = m := by omega
                      have rIx := rI6.of_block (hbx.block _ rI6.lt)
                      have hbw9 : Below w.heap.size w wr := hb6.trans (hbx.mono hb6.size)
                      have HJD : Hid (∀ x, x < t → wantB nd D x = true → J' x = -1) := fun x hx hw => HP5.out.2.2.2.2 x (by
                        have : x ∈ L.toList := HPerm.out.mem_iff.2 (by simp; omega)
                        simpa using this) hw
                      have HSN : Hid (∀ x, x < t → wantB nd D x = false → x ∈ L'.toList.take s) := fun x hx hw => by
                        rw [List.take_of_length_le (by simp; have := HM.out; omega)]
                        refine HP5.out.1.mem_iff.2 (List.mem_filter.2 ⟨HPerm.out.mem_iff.2 (by simp; omega), by simp [hw]⟩)
                      obtain ⟨wE, hwE⟩ : ∃ wE, wE = wr := ⟨_, rfl⟩
                      clear hbx q6 rK6 rI6 hb6
                      go_wp2
                      clear hqx
                      go_loopw [25] (fun v wx => ∃ x : Nat, x ≤ t ∧ v = .int .i64 x ∧ wE = wx) (fun v _ => t - (intOf v).toNat)
                      case atStart => exact ⟨0, Nat.zero_le _, rfl, hwE⟩
                      case round =>
                        obtain ⟨x, hxt, rfl, rfl⟩ := hrel
                        by_cases hlt6 : x < t
                        · have hxi : (x : Int) < (t : Int) := by omega
                          have hxm : x < c.m := by omega
                          rw [← hwE] at qx rKx rIx hrx hbw9
                          clear hwE
                          have k8 := rKx.cell hlt6
                          have s8 := hrx.cell hlt6
                          have i8 := rIx.cell hlt6
                          rw [show ptrCell c.IB c.m x = .pointer (some ⟨c.IB x, 0, none⟩) by simp [ptrCell, hxm]] at i8
                          have i2 := (qx.it x hxm).c2
                          cases hw : wantB nd D x with
                          | true =>
                            rw [show keepF (wantB nd D) t x = .bool false by simp [keepF, hlt6, hw]] at k8
                            rw [HJD.out x hlt6 hw] at i2
                            clear s8 rKx rIx hrx qx
                            go_wp2
                            exact ⟨⟨x + 1, by omega, by simp, trivial⟩, by simp [intOf]; omega⟩
                          | false =>
                            rw [show keepF (wantB nd D) t x = .bool true by simp [keepF, hlt6, hw]] at k8
                            rw [show seenF L'.toList s x = .bool true by simp [seenF, HSN.out x hlt6 hw]] at s8
                            clear i2 i8 rKx rIx hrx qx
                            go_wp2
                            exact ⟨⟨x + 1, by omega, by simp, trivial⟩, by simp [intOf]; omega⟩
                        · obtain rfl : x = t := by omega
                          rw [← hwE] at hbw9
                          clear hwE
                          go_wp2
                          go_ret
                          exact ⟨rfl, hbw9⟩
end Go.Proofs.Ybulkdnfc
