/-
  Seat b5709a: push (4).
-/
import Derived.Test.YbulkdnfcUp
import Derived.Deep.RegionHeldLaw
import Derived.Deep.RegionLaw
import Derived.Deep.AppendLies
namespace Go.Proofs.Ybulkdnfc
open Go.RowKit
set_option linter.unusedVariables false

def entList (c : Cfg) (x : Nat) : List Value := [.int .u64 (wall (c.at_ x)), .int .i64 (ext (c.at_ x)), .pointer none, .int .u64 (c.rk x), .pointer (some ⟨c.IB x, 0, none⟩)]
def cellsL (c : Cfg) : List Nat → List Value
  | [] => []
  | x :: r => entList c x ++ cellsL c r
def cellsOf (c : Cfg) (L : Array Nat) : List Value := cellsL c L.toList

theorem entList_at (c : Cfg) (x t : Nat) (ht : t < 5) : (entList c x)[t]? = some (ent c x t) := by
  match t, ht with
  | 0, _ => rfl
  | 1, _ => rfl
  | 2, _ => rfl
  | 3, _ => rfl
  | 4, _ => rfl

theorem cellsL_length (c : Cfg) (l : List Nat) : (cellsL c l).length = l.length * 5 := by
  induction l with
  | nil => rfl
  | cons x r ih => simp [cellsL, entList, ih]; omega

theorem cellsL_append (c : Cfg) (l r : List Nat) : cellsL c (l ++ r) = cellsL c l ++ cellsL c r := by
  induction l with
  | nil => rfl
  | cons x l ih => simp [cellsL, ih]

theorem cellsL_at (c : Cfg) (l : List Nat) (k t : Nat) (hk : k < l.length) (ht : t < 5) : (cellsL c l)[k * 5 + t]? = some (ent c (l.getD k 0) t) := by
  induction l generalizing k with
  | nil => simp at hk
  | cons x r ih =>
    have h5 : (entList c x).length = 5 := rfl
    cases k with
    | zero =>
      simp only [cellsL, Nat.zero_mul, Nat.zero_add]
      rw [List.getElem?_append_left (by omega), entList_at c x t ht]
      simp
    | succ k =>
      simp only [cellsL]
      rw [List.getElem?_append_right (by omega), show (k + 1) * 5 + t - (entList c x).length = k * 5 + t by omega, ih k (by simpa using hk)]
      simp

theorem cellsOf_at (c : Cfg) (L : Array Nat) (k t : Nat) (hk : k < L.size) (ht : t < 5) : (cellsOf c L)[k * 5 + t]? = some (ent c (at0 L k) t) := by
  have := cellsL_at c L.toList k t (by simpa using hk) ht
  rw [cellsOf, this]
  simp [at0, Array.getD, hk]
theorem cellsOf_length (c : Cfg) (L : Array Nat) : (cellsOf c L).length = L.size * 5 := by simp [cellsOf, cellsL_length]
theorem cellsOf_push (c : Cfg) (L : Array Nat) (x : Nat) : cellsOf c (L.push x) = cellsOf c L ++ entList c x := by
  simp [cellsOf, cellsL_append, cellsL]

theorem below_grown {w w' : World} (h : Below w.heap.size w w') : w.grownBy w' none := ⟨h.os, h.tape, h.output, h.size, fun k hk _ => h.block k hk⟩
theorem owns_below {w w' : World} {B : Nat} {e : TypeId} {size : Nat} {v : Value} {n : Nat} {xs : List Value} (h : w.ownsRow B e size v n xs) (hb : Below w.heap.size w w') : w'.ownsRow B e size v n xs :=
  h.kept (below_grown hb) (by cases v.ownBlock <;> simp)

/-- What push writes, of what was there. -/
def Tp (c : Cfg) (Q : Nat) (v : Value) (k : Nat) : Prop := k = Q ∨ v.ownBlock = some k ∨ ∃ id, id < c.m ∧ k = c.IB id

theorem grown_kept {T : Nat → Prop} {w w' : World} {row : Option Nat} (h : w.grownBy w' row) (hr : ∀ k, row = some k → T k) : Kept T w w' :=
  ⟨h.os, h.tape, h.output, h.size, fun k hk ht => h.block k hk (fun e => ht (hr k e.symm))⟩

/-- The queue behind the append and the store of the field. -/
theorem pushed {c : Cfg} {w wb w3 : World} {Q B g cap x : Nat} {v : Value} {J : Nat → Int} {L : Array Nat} (hit : ∀ id, id < c.m → Item c w id (J id)) (hQlt : Q < w.heap.size)
    (hQv : ∀ k, v.ownBlock = some k → k ≠ Q) (hIv : ∀ k, v.ownBlock = some k → ∀ id, id < c.m → c.IB id ≠ k) (hIQ : ∀ id, id < c.m → c.IB id ≠ Q)
    (hb : Below w.heap.size w wb) (hown : w3.ownsRow B 41 5 (.slice (some ⟨g, 0, none⟩) (L.size + 1) cap) (L.size + 1) (cellsOf c L ++ entList c x)) (hgrow : wb.grownBy w3 v.ownBlock) (hat : v.ownBlock = some g ∨ g = wb.heap.size)
    (hq : w3.cell? ⟨Q, 0, none⟩ = some v) (hqf : w3.frozen? ⟨Q, 0, none⟩ = false) :
    ∃ f, QM c (w3.setCell ⟨Q, 0, none⟩ (.slice (some ⟨g, 0, none⟩) (L.size + 1) cap)) Q g (L.size + 1) cap f J ∧ Holds c f (L.push x) ∧ Kept (fun k => Tp c Q v k ∨ w.heap.size ≤ k) w (w3.setCell ⟨Q, 0, none⟩ (.slice (some ⟨g, 0, none⟩) (L.size + 1) cap)) ∧ (v.ownBlock = some g ∨ w.heap.size ≤ g) := by
  have hgQ : g ≠ Q := by
    rcases hat with h | h
    · exact hQv g h
    · have := hb.size; omega
  have hgI : ∀ id, id < c.m → c.IB id ≠ g := by
    intro id hid
    rcases hat with h | h
    · exact hIv g h id hid
    · have := cell_lt (hit id hid).c0
      have := hb.size
      simp at *
      omega
  have hgn : v.ownBlock = some g ∨ w.heap.size ≤ g := by
    rcases hat with h | h
    · exact .inl h
    · have := hb.size; exact .inr (by omega)
  rcases hown.2 with ⟨h0, _⟩ | ⟨g', cap', cur, hv, hBg, hh, hnc, hcm, hcs, htk⟩
  · simp at h0
  obtain ⟨rfl, rfl⟩ : g' = g ∧ cap' = cap := by simpa using hv.symm
  have far : ∀ b u, b ≠ Q → (w3.setCell ⟨Q, 0, none⟩ u).heap[b]? = w3.heap[b]? := fun b u hb => Deep.blk_setCell_other _ _ _ _ hb
  refine ⟨fun i => cur.getD i undef, ⟨?_, by rw [World.frozen?_setCell]; exact hqf, hnc, hcm, ?_, fun id hid => ?_, hgQ.symm, hIQ, hgI⟩, ?_, ?_, hgn⟩
  · simp [go_sem, hq]
  · refine ⟨cur, (far g' _ hgQ).trans hh, hcs, fun i hi => ?_⟩
    simp [Array.getD, show i < cur.size by omega]
  · refine (hit id hid).keep ?_
    rw [far _ _ (hIQ id hid), hgrow.block _ (by have := cell_lt (hit id hid).c0; have := hb.size; simp at *; omega) (fun e => hIv _ e.symm id hid rfl)]
    exact hb.block _ (cell_lt (hit id hid).c0)
  · intro k hk t ht
    have hk' : k < L.size + 1 := by simpa using hk
    have e1 := cellsOf_at c (L.push x) k t hk ht
    rw [cellsOf_push, ← htk, List.getElem?_take_of_lt (by omega)] at e1
    have e2 : k * 5 + t < cur.size := by omega
    simp [e2] at e1
    simp [Array.getD, e2, e1]
  · refine Kept.setCell ?_ (.inl (.inl rfl)) _
    exact (Kept.of_below hb).trans (grown_kept hgrow (fun k hk => .inl (.inr (.inl hk))))

theorem Yba.info41 : (Yba.prog.info? 41).map (fun i => (i.zero, i.size, i.bytes)) = some (some (.agg #[.int .u64 0, .int .i64 0, .pointer none, .int .u64 0, .pointer none]), 5, 40) := by kernel_rfl

set_option maxHeartbeats 1000000 in
theorem push_any (c : Cfg) (ok : c.Ok) (w : World) (Q B : Nat) (v : Value) (J : Nat → Int) (L : Array Nat) (x : Nat) (hx : x < c.m) (hL : L.size < 4096) (hids : Ids c L)
    (hq : w.cell? ⟨Q, 0, none⟩ = some v) (hqf : w.frozen? ⟨Q, 0, none⟩ = false) (own : w.ownsRow B 41 5 v L.size (cellsOf c L)) (hit : ∀ id, id < c.m → Item c w id (J id)) (hQv : ∀ k, v.ownBlock = some k → k ≠ Q) (hB : B ≤ w.heap.size) (hIv : ∀ k, v.ownBlock = some k → ∀ id, id < c.m → c.IB id ≠ k) (hIQ : ∀ id, id < c.m → c.IB id ≠ Q) :
    Calls Yba.prog 4 #[.pointer (some ⟨Q, 0, none⟩), .pointer (some ⟨c.IB x, 0, none⟩)] w fun e w' => e = .returned (.tuple #[]) ∧ ∃ (g cap : Nat) (L' : Array Nat) (f' : Nat → Value) (J' : Nat → Int),
      L'.Perm (L.push x) ∧ QM c w' Q g (L.size + 1) cap f' J' ∧ Holds c f' L' ∧ Kept (Tp c Q v) w w' ∧ (v.ownBlock = some g ∨ w.heap.size ≤ g) := by
  have hQlt : Q < w.heap.size := cell_lt hq
  have hits : Hid (∀ id, id < c.m → Item c w id (J id)) := hit
  have hi := hit x hx
  have i0 := hi.c0
  have i1 := hi.c1
  obtain ⟨ti, ht0, ht1, ht2, ht3⟩ := info_parts Yba.info41
  go_enter Yba.func4, Yba.ntmps4
  go_wp2_with fail
  rw [andThen_known (r := ((40 : FuncId), Value.pointer (some ⟨c.IB x, 0, none⟩))) (w' := w) (by kernel_rfl)]
  go_wp2_with fail
  refine (due_any w (c.IB x) (c.at_ x) (c.rk x) (ok.lo x hx) (ok.hi x hx) i0 i1).mono ?_
  rintro e w1 ⟨rfl, hb1⟩
  go_wp2_with fail
  have hba := (Below.refl w1.heap.size w1).alloc (Nat.le_refl _) (Obj.cells #[.int .u64 (wall (c.at_ x)), .int .i64 (ext (c.at_ x)), .pointer none] 39)
  obtain ⟨w2, hw2⟩ : ∃ w2, w2 = w1.alloc (Obj.cells #[.int .u64 (wall (c.at_ x)), .int .i64 (ext (c.at_ x)), .pointer none] 39) := ⟨_, rfl⟩
  have A0 : w2.cell? ⟨w1.heap.size, 0, none⟩ = some (.int .u64 (wall (c.at_ x))) := by rw [hw2]; simp [go_sem]
  have A1 : w2.cell? ⟨w1.heap.size, 1, none⟩ = some (.int .i64 (ext (c.at_ x))) := by rw [hw2]; simp [go_sem]
  have A2 : w2.cell? ⟨w1.heap.size, 2, none⟩ = some (.pointer none) := by rw [hw2]; simp [go_sem]
  rw [← hw2] at hba ⊢
  have B2 : Below w.heap.size w w2 := hb1.trans (hba.mono hb1.size)
  have q2 := (B2.cell (cell_lt hq)).trans hq
  have qf2 := (B2.frozen (cell_lt hq)).trans hqf
  have own2 := owns_below own B2
  have al : ∀ o p v', w2.cell? p = some v' → (w2.alloc o).cell? p = some v' := fun o p v' h => (((Below.refl w2.heap.size w2).alloc (Nat.le_refl _) o).cell (cell_lt h)).trans h
  have A0' := fun o => al o _ _ A0
  have A1' := fun o => al o _ _ A1
  have A2' := fun o => al o _ _ A2
  have q2' := fun o => al o _ _ q2
  generalize w1.heap.size = N1 at A0 A1 A2 A0' A1' A2' ⊢
  have AL : Hid (∀ o p v', w2.cell? p = some v' → (w2.alloc o).cell? p = some v') := al
  have OW : Hid (w2.ownsRow B 41 5 v L.size (cellsOf c L)) := own2
  have NB : Hid (∀ j u, (entList c x)[j]? = some u → ((w2.alloc (Obj.cells #[.int .u64 (wall (c.at_ x)), .int .i64 (ext (c.at_ x)), .pointer none, .int .u64 (c.rk x), .pointer (some ⟨c.IB x, 0, none⟩)] 41)).drew).cell? ((⟨w2.heap.size, 0, none⟩ : Addr).add j) = some u) := by
    refine World.news_of_block (cs := #[.int .u64 (wall (c.at_ x)), .int .i64 (ext (c.at_ x)), .pointer none, .int .u64 (c.rk x), .pointer (some ⟨c.IB x, 0, none⟩)]) (t := 41) (fr := (0, 0)) ?_
    rw [heap_drew']
    exact Deep.blk_alloc_new w2 _
  have ONE : Hid (∀ u ∈ entList c x, u.oneCell' = true) := by
    intro u hu
    simp only [entList, List.mem_cons, List.not_mem_nil, or_false] at hu
    rcases hu with rfl | rfl | rfl | rfl | rfl <;> rfl
  have BL : Hid (B ≤ ((w2.alloc (Obj.cells #[.int .u64 (wall (c.at_ x)), .int .i64 (ext (c.at_ x)), .pointer none, .int .u64 (c.rk x), .pointer (some ⟨c.IB x, 0, none⟩)] 41)).drew).heap.size) := by
    show B ≤ _
    rw [heap_drew', Deep.nblk_alloc]
    have := B2.size
    omega
  have LATER : Hid (∀ w3, ((w2.alloc (Obj.cells #[.int .u64 (wall (c.at_ x)), .int .i64 (ext (c.at_ x)), .pointer none, .int .u64 (c.rk x), .pointer (some ⟨c.IB x, 0, none⟩)] 41)).drew).grownBy w3 v.ownBlock → w3.cell? ⟨Q, 0, none⟩ = some v ∧ w3.frozen? ⟨Q, 0, none⟩ = false) := by
    intro w3 hg
    have hQ2 : Q < ((w2.alloc (Obj.cells #[.int .u64 (wall (c.at_ x)), .int .i64 (ext (c.at_ x)), .pointer none, .int .u64 (c.rk x), .pointer (some ⟨c.IB x, 0, none⟩)] 41)).drew).heap.size := by rw [heap_drew', Deep.nblk_alloc]; have := cell_lt q2; simp at this; omega
    have hne : some Q ≠ v.ownBlock := fun e => hQv Q e.symm rfl
    exact ⟨(hg.cell_far ⟨Q, 0, none⟩ hQ2 hne).trans (by rw [World.cell?_drew]; exact q2' _), (hg.frozen_far ⟨Q, 0, none⟩ hQ2 hne).trans (by rw [World.frozen?_drew, World.frozen?_alloc_old _ _ _ (by have := cell_lt q2; simp at this ⊢; omega)]; exact qf2)⟩
  clear hw2 hba hb1 al i0 i1 own hq hqf own2
  go_region_law (refine step_append_lies _ rfl (.tmp 16) (.tmp 21) 27 rfl B 41 ti _ 5 40 Yba.underlying27 ht0 ht1 ht2 ht3 rfl (by decide) v L.size (cellsOf c L) (by simp [Act.eval]) (OW.out.alloc (Obj.cells #[.int .u64 (wall (c.at_ x)), .int .i64 (ext (c.at_ x)), .pointer none, .int .u64 (c.rk x), .pointer (some ⟨c.IB x, 0, none⟩)] 41)).drew ⟨w2.heap.size, 0, none⟩ 1 1 (entList c x) (by simp [Act.eval]) rfl NB.out ONE.out (by omega) (by unfold maxLen; omega) (by omega) BL.out _ rfl ?_; intro g cap w3 hown hgrow hat hlt; obtain ⟨qq, qqf⟩ := LATER.out w3 hgrow)
  all_goals
    have hbw : Below w.heap.size w (w2.alloc (Obj.cells #[.int .u64 (wall (c.at_ x)), .int .i64 (ext (c.at_ x)), .pointer none, .int .u64 (c.rk x), .pointer (some ⟨c.IB x, 0, none⟩)] 41)).drew := (B2.alloc B2.size _).drew
    obtain ⟨f, hM, hH, hK, hg⟩ := pushed (x := x) (J := J) hits.out hQlt hQv hIv hIQ hbw hown hgrow hat qq qqf
    obtain ⟨w4, hw4⟩ : ∃ w4, w4 = w3.setCell ⟨Q, 0, none⟩ (.slice (some ⟨g, 0, none⟩) (L.size + 1) cap) := ⟨_, rfl⟩
    rw [← hw4] at hM hK ⊢
    have hq4 := hM.q
    have HG : Hid (v.ownBlock = some g ∨ w.heap.size ≤ g) := hg
    have hsz : (L.push x).size = L.size + 1 := by simp
    have HH : Hid (Holds c f (L.push x)) := hH
    have hI : Ids c (L.push x) := by
      intro k hk
      by_cases e : k < L.size
      · have : at0 (L.push x) k = at0 L k := by simp [at0, Array.getD, e, Array.getElem_push, Nat.lt_succ_of_lt e]
        rw [this]; exact hids k e
      · have hk' : k = L.size := by simp at hk; omega
        subst hk'
        have : at0 (L.push x) L.size = x := by simp [at0, Array.getD]
        rw [this]; exact hx
    clear hw4 hown hgrow hat hlt qq qqf hbw hg hH NB ONE BL LATER OW AL
    clear q2 qf2 q2' A0 A1 A2 A0' A1' A2'
    go_wp2_with fail
    refine (up_any c ok w4 Q g cap f J (L.push x) L.size (by simp) (by simp; omega) hI (by rw [hsz]; exact hM) HH.out).mono ?_
    rintro e w5 ⟨rfl, L', f', J', hp, hM5, hH5, hK5⟩
    go_wp2
    go_end0
    refine ⟨rfl, g, cap, L', f', J', hp, by rw [hsz] at hM5; exact hM5, hH5, ?_, HG.out⟩
    refine (hK.trans (hK5.mono ?_)).mono ?_
    · intro k _ hk
      rcases hk with rfl | rfl | h
      · rcases HG.out with h | h
        · exact .inl (.inr (.inl h))
        · exact .inr h
      · exact .inl (.inl rfl)
      · exact .inl (.inr (.inr h))
    · intro k hk h
      rcases h with h | h
      · exact h
      · omega
end Go.Proofs.Ybulkdnfc
