/-
  Seat b5709a: removeFunc (6).
-/
import Derived.Test.YbulkdnfcDelete
namespace Go.Proofs.Ybulkdnfc
open Go.RowKit
set_option linter.unusedVariables false

theorem LM.kept {w w' : World} {LB B : Nat} {v : Value} {lg : List Nat} {T : Nat → Prop} (h : LM w LB B v lg) (hlb : LB < B) (hk : Kept T w w') (hT : ∀ k, T k → k < LB) : LM w' LB B v lg := by
  have hL := cell_lt h.cell
  have hn : ¬ T LB := fun ht => by have := hT _ ht; omega
  refine ⟨hk.cell h.cell hn, (World.frozen?_of_block (hk.block _ hL hn)).trans h.fr, ?_, h.ne, fun k hk' => by have := h.lt k hk'; have := hk.size; omega, h.ge, by have := h.bs; have := hk.size; omega⟩
  refine ⟨h.own.1, ?_⟩
  rcases h.own.2 with hz | ⟨g, cap, cur, rfl, hb, hg, rest⟩
  · exact .inl hz
  · refine .inr ⟨g, cap, cur, rfl, hb, ?_, rest⟩
    have hlt : g < w.heap.size := h.lt g rfl
    exact (hk.block g hlt (fun ht => by have := hT _ ht; omega)).trans hg

theorem inj_nodup {L : Array Nat} : Inj L ↔ L.toList.Nodup := by
  constructor
  · intro h
    refine List.pairwise_iff_getElem.2 (fun i j hi hj hij e => ?_)
    have h1 : i < L.size := by simpa using hi
    have h2 : j < L.size := by simpa using hj
    have := h i j h1 h2 (by simpa [at0, Array.getD, h1, h2] using e)
    omega
  · intro h a b ha hb e
    have h' := List.pairwise_iff_getElem.1 h
    have e' : L.toList[a]'(by simpa using ha) = L.toList[b]'(by simpa using hb) := by simpa [at0, Array.getD, ha, hb] using e
    rcases Nat.lt_trichotomy a b with h1 | h1 | h1
    · exact absurd e' (h' a b (by simpa using ha) (by simpa using hb) h1)
    · exact h1
    · exact absurd e'.symm (h' b a (by simpa using hb) (by simpa using ha) h1)

/-- What removeFunc may write. -/
def Tr (c : Cfg) (Q g LB : Nat) (k : Nat) : Prop := LB ≤ k ∨ k = Q ∨ k = g ∨ ∃ id, id < c.m ∧ k = c.IB id

set_option maxHeartbeats 2000000 in
theorem remove_any (c : Cfg) (ok : c.Ok) (w : World) (Q g cap LB B LO DB : Nat) (ad : Option Addr) (nd cd : Nat) (D : Nat → Bool) (f : Nat → Value) (J : Nat → Int) (L : Array Nat) (v : Value) (hL : L.size ≤ 4096) (hids : Ids c L) (hA : Holds c f L) (hInj : Inj L)
    (h : QM c w Q g L.size cap f J) (lm : LM w LB B v []) (dm : DM w LO DB ad nd cd D) (low : Low c Q g LB B LO) (hlo : LO ≤ g ∧ ∀ id, id < c.m → LO ≤ c.IB id) :
    Calls Yba.prog 6 #[.pointer (some ⟨Q, 0, none⟩), .func (.func 7) #[] #[.pointer (some ⟨LB, 0, none⟩), .pointer (some ⟨DB, 0, none⟩)]] w fun e w' => e = .returned (.tuple #[]) ∧ ∃ (L' : Array Nat) (f' : Nat → Value) (J' : Nat → Int) (v' : Value),
      L'.toList.Perm (L.toList.filter (fun x => !wantB nd D x)) ∧ QM c w' Q g L'.size cap f' J' ∧ Holds c f' L' ∧ HeapFrom c L' 0 ∧ Idx L' J' ∧ (∀ id, id ∈ L → wantB nd D id = true → J' id = -1) ∧ LM w' LB B v' L.toList ∧ Kept (Tr c Q g LB) w w' := by
  have hb1 := (Below.refl w.heap.size w).alloc (Nat.le_refl _) (Obj.cells #[.func (.func 7) #[] #[.pointer (some ⟨LB, 0, none⟩), .pointer (some ⟨DB, 0, none⟩)]] 44)
  have hq1 := (hb1.cell (cell_lt h.q)).trans h.q
  go_enter Yba.func6, Yba.ntmps6
  go_wp2_with fail
  obtain ⟨w1, hw1⟩ : ∃ w1, w1 = w.alloc (Obj.cells #[.func (.func 7) #[] #[.pointer (some ⟨LB, 0, none⟩), .pointer (some ⟨DB, 0, none⟩)]] 44) := ⟨_, rfl⟩
  have hfb : w1.cell? ⟨w.heap.size, 0, none⟩ = some (.func (.func 7) #[] #[.pointer (some ⟨LB, 0, none⟩), .pointer (some ⟨DB, 0, none⟩)]) := by rw [hw1]; simp [go_sem]
  rw [← hw1] at hb1 ⊢
  clear hw1 hq1
  obtain ⟨E, hE⟩ : ∃ E : Env, E = { Q := Q, g := g, cap := cap, LB := LB, B := B, LO := LO, DB := DB, FB := w.heap.size, nd := nd, cd := cd, ad := ad, D := D } := ⟨_, rfl⟩
  have hLs := cell_lt lm.cell
  have hlb := low.lb
  have hP : PS c E w1 L.size f J v [] := by
    rw [hE]
    refine ⟨lm.below hb1, by rw [dJ_nil]; exact h.below hb1, dm.kept (T := fun _ => False) (Kept.of_below hb1) (fun k hk => hk.elim), hfb, hLs, fun e => ?_, low⟩
    have := lm.lt _ e
    simp at this
  have hlo' : E.LO ≤ E.g ∧ ∀ id, id < c.m → E.LO ≤ c.IB id := by rw [hE]; exact hlo
  have HD := delete_any c ok E w1 f J v L hL hids hA hP hlo'
  have e1 : E.g = g := by rw [hE]
  have e2 : E.cap = cap := by rw [hE]
  have e3 : E.FB = w.heap.size := by rw [hE]
  have e4 : E.Q = Q := by rw [hE]
  have e5 : E.LB = LB := by rw [hE]
  have e6 : E.B = B := by rw [hE]
  rw [e1, e2, e3] at HD
  have hdel : ∀ x, E.del x = wantB nd D x := fun x => by rw [hE]; rfl
  refine HD.mono ?_
  rintro e w2 ⟨hK2, K, f2, v2, rfl, hKl, hHK, hP2⟩
  have hq2 := hP2.qm.q
  have hqf2 := hP2.qm.qf
  rw [e4, e1, e2] at hq2
  rw [e4] at hqf2
  have q2 := hP2.qm
  have lm2 := hP2.lm
  rw [e5, e6] at lm2
  rw [e4, e1, e2] at q2
  have HKL : Hid (K.toList = L.toList.filter (fun x => !wantB nd D x)) := by
    show _ = _
    rw [hKl]
    congr 1
    funext x
    rw [hdel]
  have hKn : K.size ≤ L.size := by
    have := congrArg List.length hKl
    rw [Array.length_toList] at this
    rw [this]
    exact Nat.le_trans (List.length_filter_le _ _) (by simp)
  have hTz : Kept (Tr c Q g LB) w w2 := (Kept.of_below hb1).trans (hK2.mono (fun k _ hk => by
    rcases hk with hk | hk | hk
    · exact .inl (by rw [← e5]; exact hk)
    · exact .inr (.inr (.inl (by rw [← e1]; exact hk)))
    · exact .inr (.inr (.inr hk))))
  have HJ : Hid (∀ id, id ∈ L → wantB nd D id = true → dJ E J L.toList id = -1) := by
    intro id hid hw
    simp [dJ, hid, hdel, hw]
  obtain ⟨J2, hJ2⟩ : ∃ J2, J2 = dJ E J L.toList := ⟨_, rfl⟩
  rw [← hJ2] at q2 HJ
  clear hJ2 hP2 HD hP hE e1 e2 e3 e4 e5 e6 hlo' hKl hfb hK2 hb1
  -- the store of the field
  have q3 : QM c (w2.setCell ⟨Q, 0, none⟩ (.slice (some ⟨g, 0, none⟩) K.size cap)) Q g K.size cap f2 J2 := by
    have far : ∀ b u, b ≠ Q → (w2.setCell ⟨Q, 0, none⟩ u).heap[b]? = w2.heap[b]? := fun b u hb => Deep.blk_setCell_other _ _ _ _ hb
    exact ⟨by simp [go_sem, hq2], by rw [World.frozen?_setCell]; exact hqf2, by have := q2.nc; omega, q2.cm, q2.row.of_block (far g _ q2.qg.symm), fun id hid => (q2.it id hid).keep (far _ _ (q2.iq id hid)), q2.qg, q2.iq, q2.ig⟩
  have K3 : Kept (fun k => k = Q) w2 (w2.setCell ⟨Q, 0, none⟩ (.slice (some ⟨g, 0, none⟩) K.size cap)) := Kept.setCell (T := fun k => k = Q) (Kept.refl _ _) (p := ⟨Q, 0, none⟩) rfl _
  have lm3 := lm2.kept hlb K3 (fun k hk => by have := low.q; omega)
  have kmem : ∀ x, x ∈ K → x ∈ L := fun x hx => by
    have : x ∈ K.toList := by simpa using hx
    rw [HKL.out] at this
    simpa using (List.mem_filter.1 this).1
  have idsK : Ids c K := fun k hk => by
    obtain ⟨a, ha, he⟩ := mem_at0 (kmem _ (at0_mem hk))
    rw [← he]; exact hids a ha
  have injK : Inj K := by
    have hnk : K.toList.Nodup := by rw [HKL.out]; exact (inj_nodup.1 hInj).filter _
    exact inj_nodup.2 hnk
  have hTq : ∀ k, Tq c Q g k → k < LB := fun k hk => by
    rcases hk with rfl | rfl | ⟨id, hid, rfl⟩
    · exact low.g
    · exact low.q
    · exact low.i id hid
  have HH : Hid (Holds c f2 K) := hHK
  have KM : Hid (∀ x, x ∈ K → x ∈ L) := kmem
  clear hHK kmem
  go_wp2_with fail
  refine (reorder_any c ok _ Q g cap f2 J2 K (by omega) idsK q3 HH.out injK).mono ?_
  rintro e w4 ⟨rfl, L', f', J', p1, p2, p3, p4, p5, p6, p7, p8⟩
  have HP : Hid (L'.Perm K ∧ Holds c f' L' ∧ HeapFrom c L' 0 ∧ Inj L' ∧ Idx L' J' ∧ Out K J2 J') := ⟨p1, p3, p4, p5, p6, p7⟩
  clear p1 p3 p4 p5 p6 p7
  have K5 : Kept (Tr c Q g LB) w w4 := (hTz.trans (K3.mono (fun k _ hk => .inr (.inl hk)))).trans (p8.mono (fun k _ hk => by
    rcases hk with hk | hk | hk
    · exact .inr (.inr (.inl hk))
    · exact .inr (.inl hk)
    · exact .inr (.inr (.inr hk))))
  have lm5 := lm3.kept hlb p8 hTq
  clear p8 K3 lm3 hTz q3
  go_wp2
  go_end0
  obtain ⟨p1, p3, p4, p5, p6, p7⟩ := HP.out
  refine ⟨rfl, L', f', J', v2, ?_, by rw [p1.size_eq]; exact p2, p3, p4, p6, fun id hid hw => ?_, lm5, K5⟩
  · rw [← HKL.out]; exact p1.toList
  · rw [p7 id ?_]
    · exact HJ.out id hid hw
    · intro hm
      have : id ∈ K.toList := by simpa using hm
      rw [HKL.out] at this
      have := (List.mem_filter.1 this).2
      simp [hw] at this
end Go.Proofs.Ybulkdnfc
