/-
  Seat b5709a: one round of the law's first loop, as the world sees it.
-/
import Derived.Test.YbulkdnfcStage
namespace Go.Proofs.Ybulkdnfc
open Go.RowKit
set_option linter.unusedVariables false

def Cfg.grow (c : Cfg) (N : Nat) : Cfg := { IB := fun i => if i = c.m then N else c.IB i, at_ := c.at_, rk := c.rk, m := c.m + 1 }
theorem grow_old (c : Cfg) (N i : Nat) (h : i < c.m) : (c.grow N).IB i = c.IB i := by
  show (if i = c.m then N else c.IB i) = _
  rw [if_neg (by omega)]
theorem grow_new (c : Cfg) (N : Nat) : (c.grow N).IB c.m = N := by
  show (if c.m = c.m then N else c.IB c.m) = _
  rw [if_pos rfl]
theorem ent_grow (c : Cfg) (N i t : Nat) (h : i < c.m) : ent (c.grow N) i t = ent c i t := by
  unfold ent
  rw [grow_old c N i h]
  rfl
theorem entList_grow (c : Cfg) (N i : Nat) (h : i < c.m) : entList (c.grow N) i = entList c i := by
  unfold entList
  rw [grow_old c N i h]
  rfl
theorem cellsL_grow (c : Cfg) (N : Nat) : ∀ l : List Nat, (∀ x ∈ l, x < c.m) → cellsL (c.grow N) l = cellsL c l
  | [], _ => rfl
  | x :: r, h => by
    simp only [cellsL]
    rw [entList_grow c N x (h x (by simp)), cellsL_grow c N r (fun y hy => h y (by simp [hy]))]

/-- The world when a round comes to push. -/
def pushW (w : World) (IA k : Nat) (a r : Int) : World :=
  (w.alloc (Obj.cells #[.int .i64 a, .int .u64 r, .int .i64 (-1), .int .i64 (k : Int)] 34)).setCell ⟨IA, k, none⟩ (.pointer (some ⟨w.heap.size, 0, none⟩))

structure Pre (w : World) (Q : Nat) (c : Cfg) (J : Nat → Int) (L : Array Nat) (vq : Value) : Prop where
  ok : c.Ok
  ids : Ids c L
  q : w.cell? ⟨Q, 0, none⟩ = some vq
  qf : w.frozen? ⟨Q, 0, none⟩ = false
  own : w.ownsRow (Q + 1) 41 5 vq L.size (cellsOf c L)
  it : ∀ id, id < c.m → Item c w id (J id)
  qv : ∀ b, vq.ownBlock = some b → b ≠ Q
  b : Q + 1 ≤ w.heap.size
  iv : ∀ b, vq.ownBlock = some b → ∀ id, id < c.m → c.IB id ≠ b
  iq : ∀ id, id < c.m → c.IB id ≠ Q

theorem P1.pre {w : World} {LO DB IA Q n : Nat} {ad : Option Addr} {nd cd : Nat} {D : Nat → Bool} {c : Cfg} {J : Nat → Int} {L : Array Nat} {vq : Value} (h : P1 w LO DB IA Q n ad nd cd D c J L vq) (hk : c.m < n) (hn : n ≤ 4096)
    (ha : -128 ≤ c.at_ c.m ∧ c.at_ c.m ≤ 127) (hr : 0 ≤ c.rk c.m ∧ c.rk c.m ≤ 255) :
    Pre (pushW w IA c.m (c.at_ c.m) (c.rk c.m)) Q (c.grow w.heap.size) (upd J c.m (-1)) L vq ∧ Below IA w (pushW w IA c.m (c.at_ c.m) (c.rk c.m)) ∧ (pushW w IA c.m (c.at_ c.m) (c.rk c.m)).rowIs IA 31 n (ptrCell (c.grow w.heap.size).IB (c.m + 1)) ∧ DM (pushW w IA c.m (c.at_ c.m) (c.rk c.m)) LO DB ad nd cd D ∧ (pushW w IA c.m (c.at_ c.m) (c.rk c.m)).heap.size = w.heap.size + 1 := by
  obtain ⟨o, ho⟩ : ∃ o, o = Obj.cells #[.int .i64 (c.at_ c.m), .int .u64 (c.rk c.m), .int .i64 (-1), .int .i64 (c.m : Int)] 34 := ⟨_, rfl⟩
  have hw2 : pushW w IA c.m (c.at_ c.m) (c.rk c.m) = (w.alloc o).setCell ⟨IA, c.m, none⟩ (.pointer (some ⟨w.heap.size, 0, none⟩)) := by rw [ho]; rfl
  have hQ := cell_lt h.q
  have hiaq := h.iaq
  have hb1 : Below w.heap.size w (w.alloc o) := (Below.refl _ _).alloc (Nat.le_refl _) o
  have far : ∀ b u, b ≠ IA → ((w.alloc o).setCell ⟨IA, c.m, none⟩ u).heap[b]? = (w.alloc o).heap[b]? := fun b u hb => Deep.blk_setCell_other _ _ _ _ hb
  have hK : Kept (fun k => k = IA) w ((w.alloc o).setCell ⟨IA, c.m, none⟩ (.pointer (some ⟨w.heap.size, 0, none⟩))) := Kept.setCell (T := fun k => k = IA) (Kept.of_below hb1) (p := ⟨IA, c.m, none⟩) rfl _
  have hsz : ((w.alloc o).setCell ⟨IA, c.m, none⟩ (.pointer (some ⟨w.heap.size, 0, none⟩))).heap.size = w.heap.size + 1 := by simp [World.setCell]
  have hIB : ∀ id, id < c.m → c.IB id < w.heap.size := fun id hid => cell_lt (h.it id hid).c0
  have hids := perm_ids h.perm
  have hown : w.ownsRow (Q + 1) 41 5 vq L.size (cellsOf c L) ∧ (∀ b, vq.ownBlock = some b → Q < b ∧ b < w.heap.size ∧ ∀ id, id < c.m → c.IB id ≠ b) := by
    rcases h.st with ⟨h0, rfl⟩ | ⟨g, cap, f, rfl, hg, hM, hA⟩
    · have hL0 : L.size = 0 := by rw [h.size, h0]
      have : L = #[] := Array.eq_empty_of_size_eq_zero hL0
      subst this
      exact ⟨⟨rfl, .inl ⟨rfl, rfl⟩⟩, fun b hb => by simp [Value.ownBlock] at hb⟩
    · rw [h.size]
      refine ⟨own_of hM hA h.size hg, fun b hb => ?_⟩
      have : g = b := by simpa [Value.ownBlock] using hb
      subst this
      exact ⟨hg, hM.row.lt, hM.ig⟩
  obtain ⟨own, hob⟩ := hown
  have hm1 : (c.grow w.heap.size).m = c.m + 1 := rfl
  rw [hw2]
  refine ⟨⟨⟨?_, ?_, ?_, ?_, ?_, ?_⟩, ?_, ?_, ?_, ?_, ?_, ?_, ?_, ?_, ?_⟩, ?_, ?_, ?_, hsz⟩
  · intro i hi
    by_cases e : i = c.m
    · subst e; exact ha.1
    · exact h.ok.lo i (by omega)
  · intro i hi
    by_cases e : i = c.m
    · subst e; exact ha.2
    · exact h.ok.hi i (by omega)
  · intro i hi
    by_cases e : i = c.m
    · subst e; exact hr.1
    · exact h.ok.rlo i (by omega)
  · intro i hi
    by_cases e : i = c.m
    · subst e; exact hr.2
    · exact h.ok.rhi i (by omega)
  · intro i j hi hj e
    by_cases ei : i = c.m <;> by_cases ej : j = c.m
    · omega
    · subst ei
      rw [grow_new, grow_old _ _ _ (by omega)] at e
      have := hIB j (by omega)
      omega
    · subst ej
      rw [grow_new, grow_old _ _ _ (by omega)] at e
      have := hIB i (by omega)
      omega
    · rw [grow_old _ _ _ (by omega), grow_old _ _ _ (by omega)] at e
      exact h.ok.inj i j (by omega) (by omega) e
  · omega
  · intro k hk'
    have := hids k hk'
    omega
  · exact hK.cell h.q (by show ¬ _ = _; simp; omega)
  · exact (World.frozen?_of_block (hK.block _ hQ (by show ¬ _ = _; simp; omega))).trans h.qf
  · rw [show cellsOf (c.grow w.heap.size) L = cellsOf c L from cellsL_grow c _ L.toList (fun x hx => by simpa using h.perm.mem_iff.1 hx)]
    refine own.kept (row := some IA) ⟨hK.os, hK.tape, hK.output, hK.size, fun k hk hne => hK.block k hk (fun e => hne (by rw [e]))⟩ (.inr (fun e => ?_))
    have := (hob _ e).1
    omega
  · intro id hid
    by_cases e : id = c.m
    · subst e
      rw [upd_same]
      have hN : ((w.alloc o).setCell ⟨IA, c.m, none⟩ (.pointer (some ⟨w.heap.size, 0, none⟩))).heap[w.heap.size]? = some o := by
        have hnI : w.heap.size ≠ IA := by simp at hQ; omega
        rw [far _ _ hnI]
        exact Deep.blk_alloc_new w o
      have hcell : ∀ t v, (#[.int .i64 (c.at_ c.m), .int .u64 (c.rk c.m), .int .i64 (-1), .int .i64 (c.m : Int)] : Array Value)[t]? = some v → ((w.alloc o).setCell ⟨IA, c.m, none⟩ (.pointer (some ⟨w.heap.size, 0, none⟩))).cell? ⟨w.heap.size, t, none⟩ = some v := by
        intro t v hv
        unfold World.cell?
        rw [hN, ho]
        simpa using hv
      refine ⟨?_, ?_, ?_, ?_, ?_⟩
      · rw [grow_new]; exact hcell 0 _ rfl
      · rw [grow_new]; exact hcell 1 _ rfl
      · rw [grow_new]; exact hcell 2 _ rfl
      · rw [grow_new]; exact hcell 3 _ rfl
      · rw [grow_new]
        unfold World.frozen?
        rw [hN, ho]
        simp
    · rw [upd_other _ _ _ _ e]
      have hid' : id < c.m := by omega
      have hi := h.it id hid'
      have hne := h.ib id hid'
      have blk := hK.block (c.IB id) (hIB id hid') (by show ¬ _ = _; omega)
      have hi2 := hi.keep blk
      refine ⟨?_, ?_, ?_, ?_, ?_⟩
      · rw [grow_old _ _ _ hid']; exact hi2.c0
      · rw [grow_old _ _ _ hid']; exact hi2.c1
      · rw [grow_old _ _ _ hid']; exact hi2.c2
      · rw [grow_old _ _ _ hid']; exact hi2.c3
      · rw [grow_old _ _ _ hid']; exact hi2.f2
  · intro b hb
    have := (hob b hb).1
    omega
  · rw [hsz]; simp at hQ; omega
  · intro b hb id hid
    by_cases e : id = c.m
    · subst e; rw [grow_new]; have := (hob b hb).2.1; omega
    · rw [grow_old _ _ _ (by omega)]; exact (hob b hb).2.2 id (by omega)
  · intro id hid
    by_cases e : id = c.m
    · subst e; rw [grow_new]; simp at hQ; omega
    · rw [grow_old _ _ _ (by omega)]; have := h.ib id (by omega); omega
  · have hb2 : Below IA w (w.alloc o) := hb1.mono (by simp at hQ; omega)
    exact hb2.setCell (p := ⟨IA, c.m, none⟩) (Nat.le_refl _) _
  · have hr1 := (h.row.of_block (hb1.block _ h.row.lt)).set c.m (.pointer (some ⟨w.heap.size, 0, none⟩))
    have : (fun j => if j = c.m then Value.pointer (some ⟨w.heap.size, 0, none⟩) else ptrCell c.IB c.m j) = ptrCell (c.grow w.heap.size).IB (c.m + 1) := by
      funext j
      unfold ptrCell
      by_cases e : j = c.m
      · subst e; rw [if_pos rfl, if_pos (by omega), grow_new]
      · rw [if_neg e]
        by_cases e2 : j < c.m
        · rw [if_pos e2, if_pos (by omega), grow_old _ _ _ e2]
        · rw [if_neg e2, if_neg (by omega)]
    rw [← this]
    exact hr1
  · exact h.dm.kept hK (fun k hk => by rw [hk]; exact h.lo)

theorem P1.post {w w2 w3 : World} {LO DB IA Q n g cap : Nat} {ad : Option Addr} {nd cd : Nat} {D : Nat → Bool} {c c' : Cfg} {J J2 J3 : Nat → Int} {L L' : Array Nat} {f : Nat → Value} {vq : Value} (h : P1 w LO DB IA Q n ad nd cd D c J L vq) (hc' : c' = c.grow w.heap.size) (pre : Pre w2 Q c' J2 L vq) (row : w2.rowIs IA 31 n (ptrCell c'.IB (c.m + 1))) (dm : DM w2 LO DB ad nd cd D) (hsz : w2.heap.size = w.heap.size + 1)
    (hp : L'.Perm (L.push c.m)) (hM : QM c' w3 Q g (L.size + 1) cap f J3) (hH : Holds c' f L') (hK : Kept (Tp c' Q vq) w2 w3) (hg : vq.ownBlock = some g ∨ w2.heap.size ≤ g) :
    P1 w3 LO DB IA Q n ad nd cd D c' J3 L' (.slice (some ⟨g, 0, none⟩) c'.m cap) := by
  have hQ := cell_lt pre.q
  have hiaq := h.iaq
  have hlo := h.lo
  have hown : ∀ b, vq.ownBlock = some b → Q < b := by
    intro b hb
    rcases pre.own.2 with ⟨h0, _⟩ | ⟨g', cap', cur, h0, hB, _⟩
    · rw [h0] at hb; simp [Value.ownBlock] at hb
    · rw [h0] at hb; simp [Value.ownBlock] at hb; omega
  have hib' : ∀ id, id < c'.m → Q < c'.IB id := by
    intro id hid
    rw [hc'] at hid ⊢
    by_cases e : id = c.m
    · subst e; rw [grow_new]; have := cell_lt h.q; simpa using this
    · rw [grow_old _ _ _ (by have : (c.grow w.heap.size).m = c.m + 1 := rfl; omega)]
      exact h.ib id (by have : (c.grow w.heap.size).m = c.m + 1 := rfl; omega)
  have hTp : ∀ k, Tp c' Q vq k → Q ≤ k := by
    intro k hk
    rcases hk with rfl | hk | ⟨id, hid, rfl⟩
    · exact Nat.le_refl _
    · have := hown k hk; omega
    · have := hib' id hid; omega
  have hgQ : Q < g := by
    rcases hg with h1 | h1
    · exact hown g h1
    · simp at hQ; omega
  have hm : c'.m = c.m + 1 := by rw [hc']; rfl
  have hLs : L.size = c.m := h.size
  rw [hLs, ← hm] at hM
  refine ⟨dm.kept hK (fun k hk => by have := hTp k hk; omega), hlo, hiaq, hM.q, hM.qf, hM.it, hib', pre.ok, ?_, ?_, .inr ⟨g, cap, f, rfl, hgQ, hM, hH⟩⟩
  · have h1 := hp.toList
    rw [Array.toList_push] at h1
    rw [hm, List.range_succ]
    exact h1.trans (h.perm.append_right _)
  · rw [hm]
    exact row.of_block (hK.block _ row.lt (fun ht => by have := hTp _ ht; omega))

theorem P1.start (w : World) (n : Nat) (ad : Option Addr) (nd cd : Nat) (D : Nat → Bool) (A rk : Nat → Int) (hD : Dels w ad nd D) (hnd : nd ≤ 9223372036854775807) :
    P1 (((w.alloc (Obj.cells #[.slice ad nd cd] 24)).alloc (Obj.cells (madeCells #[.pointer none] n) 31)).alloc (Obj.cells #[.slice none 0 0] 29)) (w.heap.size + 1) w.heap.size (w.heap.size + 1) (w.heap.size + 1 + 1) n ad nd cd D { IB := fun _ => 0, at_ := A, rk := rk, m := 0 } (fun _ => 0) #[] (.slice none 0 0) ∧
    Below w.heap.size w (((w.alloc (Obj.cells #[.slice ad nd cd] 24)).alloc (Obj.cells (madeCells #[.pointer none] n) 31)).alloc (Obj.cells #[.slice none 0 0] 29)) := by
  have hb1 : Below w.heap.size w (w.alloc (Obj.cells #[.slice ad nd cd] 24)) := (Below.refl _ _).alloc (Nat.le_refl _) _
  have hb2 := hb1.alloc hb1.size (Obj.cells (madeCells #[.pointer none] n) 31)
  have hb3 := hb2.alloc hb2.size (Obj.cells #[.slice none 0 0] 29)
  refine ⟨⟨⟨by simp [go_sem], hD.keep (fun p v h => (hb3.cell (cell_lt h)).trans h), by omega, fun a ha h0 => ?_, hnd⟩, Nat.le_refl _, by omega, by simp [go_sem], by simp [go_sem], fun id hid => absurd hid (Nat.not_lt_zero _), fun id hid => absurd hid (Nat.not_lt_zero _), ⟨fun i hi => absurd hi (Nat.not_lt_zero _), fun i hi => absurd hi (Nat.not_lt_zero _), fun i hi => absurd hi (Nat.not_lt_zero _), fun i hi => absurd hi (Nat.not_lt_zero _), fun i _ hi => absurd hi (Nat.not_lt_zero _), Nat.zero_le _⟩, List.Perm.refl _, ?_, .inl ⟨rfl, rfl⟩⟩, hb3⟩
  · obtain ⟨b, off, e, hc⟩ := hD.spot h0
    rw [e] at ha
    obtain rfl := Option.some.inj ha
    have := cell_lt (hc 0 h0)
    simp at this ⊢
    omega
  · have hr := World.rowIs_made (w.alloc (Obj.cells #[.slice ad nd cd] 24)) (.pointer none) n 31
    have hs : (w.alloc (Obj.cells #[.slice ad nd cd] 24)).heap.size = w.heap.size + 1 := by simp
    rw [hs] at hr
    have hb4 : Below (w.heap.size + 1 + 1) ((w.alloc (Obj.cells #[.slice ad nd cd] 24)).alloc (Obj.cells (madeCells #[.pointer none] n) 31)) (((w.alloc (Obj.cells #[.slice ad nd cd] 24)).alloc (Obj.cells (madeCells #[.pointer none] n) 31)).alloc (Obj.cells #[.slice none 0 0] 29)) := (Below.refl _ _).alloc (by simp) _
    have : (fun _ => Value.pointer none) = ptrCell (fun _ => 0) 0 := by
      funext i
      simp [ptrCell]
    rw [← this]
    exact hr.of_block (hb4.block _ (by omega))

end Go.Proofs.Ybulkdnfc
