/-
  Seat b5709a: the law's own predicate (7) and removeFunc's (13).
-/
import Derived.Test.YbulkdnfcPush
import Derived.Test.YbulkdnfcReorder
import Derived.BigQuiet
namespace Go.Proofs.Ybulkdnfc
open Go.RowKit
set_option linter.unusedVariables false

/-- The numbers as cells. -/
def lgCells (lg : List Nat) : List Value := lg.map (fun (x : Nat) => .int .i64 (x : Int))

/-- The log: its variable at block LB, its row its own. -/
structure LM (w : World) (LB B : Nat) (v : Value) (lg : List Nat) : Prop where
  cell : w.cell? ⟨LB, 0, none⟩ = some v
  fr : w.frozen? ⟨LB, 0, none⟩ = false
  own : w.ownsRow B 3 1 v lg.length (lgCells lg)
  ne : ∀ k, v.ownBlock = some k → k ≠ LB
  lt : ∀ k, v.ownBlock = some k → k < w.heap.size
  ge : ∀ k, v.ownBlock = some k → B ≤ k
  bs : B ≤ w.heap.size

/-- What the law marks: the variable's box at DB; all of it lies below LO. -/
structure DM (w : World) (LO DB : Nat) (ad : Option Addr) (nd cd : Nat) (D : Nat → Bool) : Prop where
  cell : w.cell? ⟨DB, 0, none⟩ = some (.slice ad nd cd)
  dels : Dels w ad nd D
  lo : DB < LO
  alo : ∀ a, ad = some a → 0 < nd → a.block < LO
  nd : nd ≤ 9223372036854775807

theorem DM.kept {w w' : World} {LO DB : Nat} {ad : Option Addr} {nd cd : Nat} {D : Nat → Bool} {T : Nat → Prop} (h : DM w LO DB ad nd cd D) (hk : Kept T w w') (hT : ∀ k, T k → LO ≤ k) : DM w' LO DB ad nd cd D := by
  have := h.lo
  refine ⟨hk.cell h.cell (fun ht => by have := hT _ ht; simp at this; omega), ⟨fun hn => ?_⟩, h.lo, h.alo, h.nd⟩
  obtain ⟨b, off, rfl, hc⟩ := h.dels.spot hn
  have hb := h.alo _ rfl hn
  refine ⟨b, off, rfl, fun j hj => hk.cell (hc j hj) (fun ht => ?_)⟩
  have := hT _ ht
  simp at this hb
  omega

theorem LM.below {w w' : World} {LB B : Nat} {v : Value} {lg : List Nat} (h : LM w LB B v lg) (hb : Below w.heap.size w w') : LM w' LB B v lg := by
  have hL := cell_lt h.cell
  exact ⟨(hb.cell hL).trans h.cell, (hb.frozen hL).trans h.fr, owns_below h.own hb, h.ne, fun k hk => by have := h.lt k hk; have := hb.size; omega, h.ge, by have := h.bs; have := hb.size; omega⟩

def Tl (LB : Nat) (v : Value) (k : Nat) : Prop := k = LB ∨ v.ownBlock = some k

theorem Yba.info3 : (Yba.prog.info? 3).map (fun i => (i.zero, i.size, i.bytes)) = some (some (.int .i64 0), 1, 8) := by kernel_rfl

/-- The log behind the append and the store. -/
theorem logged {w wb w3 : World} {LB B g cap x : Nat} {v : Value} {lg : List Nat} (lm : LM w LB B v lg) (hb : Below w.heap.size w wb)
    (hown : w3.ownsRow B 3 1 (.slice (some ⟨g, 0, none⟩) (lg.length + 1) cap) (lg.length + 1) (lgCells lg ++ [.int .i64 (x : Int)])) (hgrow : wb.grownBy w3 v.ownBlock) (hat : v.ownBlock = some g ∨ g = wb.heap.size) (hlt : g < w3.heap.size)
    (hq : w3.cell? ⟨LB, 0, none⟩ = some v) (hqf : w3.frozen? ⟨LB, 0, none⟩ = false) :
    LM (w3.setCell ⟨LB, 0, none⟩ (.slice (some ⟨g, 0, none⟩) (lg.length + 1) cap)) LB B (.slice (some ⟨g, 0, none⟩) (lg.length + 1) cap) (lg ++ [x]) ∧ Kept (Tl LB v) w (w3.setCell ⟨LB, 0, none⟩ (.slice (some ⟨g, 0, none⟩) (lg.length + 1) cap)) := by
  have hL : LB < w.heap.size := cell_lt lm.cell
  have hgL : g ≠ LB := by
    rcases hat with h | h
    · exact lm.ne g h
    · have := hb.size; omega
  have hgB : B ≤ g := by
    rcases hat with h | h
    · exact lm.ge g h
    · have := hb.size; have := lm.bs; omega
  have far : ∀ b u, b ≠ LB → (w3.setCell ⟨LB, 0, none⟩ u).heap[b]? = w3.heap[b]? := fun b u hb => Deep.blk_setCell_other _ _ _ _ hb
  have hsz : ∀ u, (w3.setCell ⟨LB, 0, none⟩ u).heap.size = w3.heap.size := fun u => by simp [World.setCell]
  refine ⟨⟨by simp [go_sem, hq], by rw [World.frozen?_setCell]; exact hqf, ?_, fun k hk => ?_, fun k hk => ?_, fun k hk => ?_, ?_⟩, ?_⟩
  · rw [show lgCells (lg ++ [x]) = lgCells lg ++ [.int .i64 (x : Int)] by simp [lgCells], show (lg ++ [x]).length = lg.length + 1 by simp]
    refine hown.kept (w' := w3.setCell ⟨LB, 0, none⟩ (.slice (some ⟨g, 0, none⟩) (lg.length + 1) cap)) (row := some LB) ⟨rfl, rfl, rfl, by rw [hsz]; exact Nat.le_refl _, fun k _ hk => far k _ (fun e => hk (by rw [e]))⟩ ?_
    right
    simp [Value.ownBlock]
    omega
  · simp [Value.ownBlock] at hk; omega
  · simp [Value.ownBlock] at hk; rw [hsz]; omega
  · simp [Value.ownBlock] at hk; omega
  · rw [hsz]; have := hgrow.size; have := hb.size; have := lm.bs; omega
  · refine Kept.setCell ?_ (.inl rfl) _
    exact (Kept.of_below hb).trans (grown_kept hgrow (fun k hk => .inr hk))

set_option maxHeartbeats 1000000 in
theorem cl7_any (w : World) (LB B LO DB : Nat) (ad : Option Addr) (nd cd : Nat) (D : Nat → Bool) (v : Value) (lg : List Nat) (b x : Nat) (hx : x ≤ 4096) (i3 : w.cell? ⟨b, 3, none⟩ = some (.int .i64 (x : Int))) (lm : LM w LB B v lg) (dm : DM w LO DB ad nd cd D)
    (hLL : LO ≤ LB) (hLB : LO ≤ B) (hlen : lg.length ≤ 4096) (hbL : b ≠ LB) (hbv : v.ownBlock ≠ some b) :
    Calls Yba.prog 7 #[.pointer (some ⟨b, 0, none⟩), .pointer (some ⟨LB, 0, none⟩), .pointer (some ⟨DB, 0, none⟩)] w fun e w' => e = .returned (.bool (wantB nd D x)) ∧ ∃ v', LM w' LB B v' (lg ++ [x]) ∧ Kept (Tl LB v) w w' ∧ (v'.ownBlock = v.ownBlock ∨ ∃ k, v'.ownBlock = some k ∧ w.heap.size ≤ k) := by
  have lmc := lm.cell
  obtain ⟨ti, ht0, ht1, ht2, ht3⟩ := info_parts Yba.info3
  have al : ∀ o p v', w.cell? p = some v' → (w.alloc o).cell? p = some v' := fun o p v' h => (((Below.refl w.heap.size w).alloc (Nat.le_refl _) o).cell (cell_lt h)).trans h
  have i3' := fun o => al o _ _ i3
  have lmc' := fun o => al o _ _ lmc
  have OW : Hid (w.ownsRow B 3 1 v lg.length (lgCells lg)) := lm.own
  have NB : Hid (∀ j u, ([.int .i64 (x : Int)] : List Value)[j]? = some u → ((w.alloc (Obj.cells #[.int .i64 (x : Int)] 3)).drew).cell? ((⟨w.heap.size, 0, none⟩ : Addr).add j) = some u) := by
    refine World.news_of_block (cs := #[.int .i64 (x : Int)]) (t := 3) (fr := (0, 0)) ?_
    rw [heap_drew']
    exact Deep.blk_alloc_new w _
  have ONE : Hid (∀ u ∈ ([.int .i64 (x : Int)] : List Value), u.oneCell' = true) := by
    intro u hu
    simp only [List.mem_cons, List.not_mem_nil, or_false] at hu
    rcases hu with rfl
    rfl
  have BL : Hid (B ≤ ((w.alloc (Obj.cells #[.int .i64 (x : Int)] 3)).drew).heap.size) := by
    show B ≤ _
    rw [heap_drew', Deep.nblk_alloc]
    have := lm.bs
    omega
  have LATER : Hid (∀ w3, ((w.alloc (Obj.cells #[.int .i64 (x : Int)] 3)).drew).grownBy w3 v.ownBlock → w3.cell? ⟨LB, 0, none⟩ = some v ∧ w3.frozen? ⟨LB, 0, none⟩ = false) := by
    intro w3 hg
    have hQ2 : LB < ((w.alloc (Obj.cells #[.int .i64 (x : Int)] 3)).drew).heap.size := by rw [heap_drew', Deep.nblk_alloc]; have := cell_lt lmc; simp at this; omega
    have hne : some LB ≠ v.ownBlock := fun e => lm.ne LB e.symm rfl
    exact ⟨(hg.cell_far ⟨LB, 0, none⟩ hQ2 hne).trans (by rw [World.cell?_drew]; exact lmc' _), (hg.frozen_far ⟨LB, 0, none⟩ hQ2 hne).trans (by rw [World.frozen?_drew, World.frozen?_alloc_old _ _ _ (by have := cell_lt lmc; simp at this ⊢; omega)]; exact lm.fr)⟩
  go_enter Yba.func7, Yba.ntmps7
  go_wp2
  go_region_law (refine step_append_lies _ rfl (.tmp 5) (.tmp 10) 36 rfl B 3 ti _ 1 8 Yba.underlying36 ht0 ht1 ht2 ht3 rfl (by decide) v lg.length (lgCells lg) (by simp [Act.eval]) (OW.out.alloc (Obj.cells #[.int .i64 (x : Int)] 3)).drew ⟨w.heap.size, 0, none⟩ 1 1 [.int .i64 (x : Int)] (by simp [Act.eval]) rfl NB.out ONE.out (by omega) (by unfold maxLen; omega) (by omega) BL.out _ rfl ?_; intro g cap w3 hown hgrow hat hlt; obtain ⟨qq, qqf⟩ := LATER.out w3 hgrow)
  all_goals
    have hbw : Below w.heap.size w (w.alloc (Obj.cells #[.int .i64 (x : Int)] 3)).drew := ((Below.refl _ _).alloc (Nat.le_refl _) _).drew
    obtain ⟨lm4, hK⟩ := logged lm hbw hown hgrow hat hlt qq qqf
    have hg : v.ownBlock = some g ∨ w.heap.size ≤ g := hat.imp id (fun h => by rw [h]; exact hbw.size)
    obtain ⟨w4, hw4⟩ : ∃ w4, w4 = w3.setCell ⟨LB, 0, none⟩ (.slice (some ⟨g, 0, none⟩) (lg.length + 1) cap) := ⟨_, rfl⟩
    rw [← hw4] at lm4 hK ⊢
    have HG : Hid (v.ownBlock = some g ∨ w.heap.size ≤ g) := hg
    clear hw4 hown hgrow hat hlt qq qqf hbw hg NB ONE BL LATER OW al
    have hTl : ∀ k, Tl LB v k → LO ≤ k := fun k hk => by
      rcases hk with rfl | hk
      · exact hLL
      · have := lm.ge k hk; omega
    have dm4 := dm.kept hK hTl
    have j3 : w4.cell? ⟨b, 3, none⟩ = some (.int .i64 (x : Int)) := hK.cell i3 (fun ht => by
      rcases ht with h | h
      · exact hbL h
      · exact hbv h)
    have dmc := dm4.cell
    have DLS : Hid (Dels w4 ad nd D) := dm4.dels
    clear i3 i3' lmc lmc'
    go_wp2
    go_quiet ((go_at_call 5; exact Calls.quiet_of_same (want_any _ ad nd cd D x (DLS.out.keep (fun p v h => by rw [World.cell?_drewN]; exact h)) dm.nd hx)))
    go_wp2
    go_ret
    refine ⟨rfl, _, lm4.below (below_drewN (Below.refl _ _) _), hK.trans (Kept.of_below (below_drewN (Below.refl _ _) _)), ?_⟩
    rcases HG.out with h | h
    · exact .inl (by rw [h]; rfl)
    · exact .inr ⟨g, rfl, h⟩

/-- All of the queue lies below the log's variable. -/
structure Low (c : Cfg) (Q g LB B LO : Nat) : Prop where
  q : Q < LB
  g : g < LB
  i : ∀ id, id < c.m → c.IB id < LB
  lb : LB < B
  lo : LO ≤ LB

theorem QM.tl {c : Cfg} {w w' : World} {Q g n cap LB B LO : Nat} {f : Nat → Value} {J : Nat → Int} {v : Value} {T : Nat → Prop} (h : QM c w Q g n cap f J) (low : Low c Q g LB B LO) (hk : Kept T w w') (hT : ∀ k, T k → LB ≤ k) : QM c w' Q g n cap f J := by
  have k1 : ∀ b, b < LB → b < w.heap.size → w'.heap[b]? = w.heap[b]? := fun b h1 h2 => hk.block b h2 (fun ht => by have := hT b ht; omega)
  have hQ := cell_lt h.q
  exact ⟨hk.cell h.q (fun ht => by have := hT _ ht; have := low.q; simp at *; omega), (World.frozen?_of_block (k1 Q low.q hQ)).trans h.qf, h.nc, h.cm, h.row.of_block (k1 g low.g h.row.lt), fun id hid => (h.it id hid).keep (k1 _ (low.i id hid) (cell_lt (h.it id hid).c0)), h.qg, h.iq, h.ig⟩

theorem Tl_ge {w : World} {LB B : Nat} {v : Value} {lg : List Nat} (lm : LM w LB B v lg) (h : LB < B) : ∀ k, Tl LB v k → LB ≤ k := fun k hk => by
  rcases hk with rfl | hk
  · exact Nat.le_refl _
  · have := lm.ge k hk; omega

def J13 (J : Nat → Int) (x : Nat) (b : Bool) : Nat → Int := if b then upd J x (-1) else J

/-- What the predicates may write: the log, the items. -/
def Tk (c : Cfg) (LB : Nat) (v : Value) (k : Nat) : Prop := Tl LB v k ∨ ∃ id, id < c.m ∧ k = c.IB id

set_option maxHeartbeats 1000000 in
theorem cl13_any (c : Cfg) (ok : c.Ok) (w : World) (Q g n cap LB B LO DB FB : Nat) (f : Nat → Value) (J : Nat → Int) (ad : Option Addr) (nd cd : Nat) (D : Nat → Bool) (v : Value) (lg : List Nat) (x : Nat) (hx : x < c.m) (low : Low c Q g LB B LO) (h : QM c w Q g n cap f J) (lm : LM w LB B v lg) (dm : DM w LO DB ad nd cd D)
    (hF : w.cell? ⟨FB, 0, none⟩ = some (.func (.func 7) #[] #[.pointer (some ⟨LB, 0, none⟩), .pointer (some ⟨DB, 0, none⟩)])) (hlen : lg.length ≤ 4096) :
    Calls Yba.prog 13 #[.agg #[.int .u64 (wall (c.at_ x)), .int .i64 (ext (c.at_ x)), .pointer none, .int .u64 (c.rk x), .pointer (some ⟨c.IB x, 0, none⟩)], .pointer (some ⟨FB, 0, none⟩)] w
      fun e w' => e = .returned (.bool (wantB nd D x)) ∧ ∃ v', LM w' LB B v' (lg ++ [x]) ∧ QM c w' Q g n cap f (J13 J x (wantB nd D x)) ∧ Kept (Tk c LB v) w w' ∧ (v'.ownBlock = v.ownBlock ∨ ∃ k, v'.ownBlock = some k ∧ w.heap.size ≤ k) := by
  have hxs : x ≤ 4096 := by have := ok.small; omega
  have hb1 := (Below.refl w.heap.size w).alloc (Nat.le_refl _) (Obj.cells #[.int .u64 (wall (c.at_ x)), .int .i64 (ext (c.at_ x)), .pointer none, .int .u64 (c.rk x), .pointer (some ⟨c.IB x, 0, none⟩)] 41)
  have hF1 := (hb1.cell (cell_lt hF)).trans hF
  go_enter Yba.func13, Yba.ntmps13
  go_wp2_with fail
  obtain ⟨w1, hw1⟩ : ∃ w1, w1 = w.alloc (Obj.cells #[.int .u64 (wall (c.at_ x)), .int .i64 (ext (c.at_ x)), .pointer none, .int .u64 (c.rk x), .pointer (some ⟨c.IB x, 0, none⟩)] 41) := ⟨_, rfl⟩
  have b4 : w1.cell? ⟨w.heap.size, 4, none⟩ = some (.pointer (some ⟨c.IB x, 0, none⟩)) := by rw [hw1]; simp [go_sem]
  rw [← hw1] at hb1 ⊢
  clear hw1 hF1
  have h1 := h.below hb1
  have lm1 := lm.below hb1
  have dm1 := dm.kept (T := fun _ => False) (Kept.of_below hb1) (fun k hk => hk.elim)
  have hxl := low.i x hx
  have hlb := low.lb
  have hLLt := cell_lt lm.cell
  refine (cl7_any w1 LB B LO DB ad nd cd D v lg (c.IB x) x hxs (h1.it x hx).c3 lm1 dm1 low.lo (by have := low.lo; omega) hlen (by omega) (fun e => by have := lm.ge _ e; omega)).mono ?_
  rintro e w2 ⟨rfl, v', lm2, hK2, hv⟩
  have c4 : w2.cell? ⟨w.heap.size, 4, none⟩ = some (.pointer (some ⟨c.IB x, 0, none⟩)) := hK2.cell b4 (fun ht => by
    rcases ht with e | e
    · simp at e hLLt; omega
    · have := lm.lt _ e; simp at this)
  have h2 := h1.tl (v := v) low hK2 (Tl_ge lm hlb)
  have i2 := (h2.it x hx).c2
  have f2 := (h2.it x hx).f2
  have hv' : v'.ownBlock = v.ownBlock ∨ ∃ k, v'.ownBlock = some k ∧ w.heap.size ≤ k := hv.imp id (fun ⟨k, h1, h2⟩ => ⟨k, h1, by have := hb1.size; omega⟩)
  have HV : Hid (v'.ownBlock = v.ownBlock ∨ ∃ k, v'.ownBlock = some k ∧ w.heap.size ≤ k) := hv'
  have hKw : Kept (Tk c LB v) w w2 := (Kept.of_below hb1).trans (hK2.mono (fun k _ hk => .inl hk))
  clear hv hv' b4 hK2 hb1
  cases hw : wantB nd D x with
  | true =>
    go_wp2_with fail
    rw [andThen_known (r := ((41 : FuncId), Value.pointer (some ⟨c.IB x, 0, none⟩))) (w' := w2) (by kernel_rfl)]
    go_wp2
    go_end0
    go_wp2
    go_ret
    rw [hw]
    refine ⟨rfl, v', ?_, h2.putIdx ok x hx (-1), hKw.setCell (.inr ⟨x, hx, rfl⟩) _, HV.out⟩
    have hne : c.IB x ≠ LB := by omega
    have far : ∀ b u, b ≠ c.IB x → (w2.setCell ⟨c.IB x, 2, none⟩ u).heap[b]? = w2.heap[b]? := fun b u hb => Deep.blk_setCell_other _ _ _ _ hb
    have hsz : ∀ u, (w2.setCell ⟨c.IB x, 2, none⟩ u).heap.size = w2.heap.size := fun u => by simp [World.setCell]
    refine ⟨(World.cell?_of_block (far LB _ hne.symm)).trans lm2.cell, by rw [World.frozen?_setCell]; exact lm2.fr, ?_, lm2.ne, fun k hk => by rw [hsz]; exact lm2.lt k hk, lm2.ge, by rw [hsz]; exact lm2.bs⟩
    refine lm2.own.kept (row := some (c.IB x)) ⟨rfl, rfl, rfl, by rw [hsz]; exact Nat.le_refl _, fun k _ hk => far k _ (fun e => hk (by rw [e]))⟩ (.inr (fun e => ?_))
    have := lm2.ge _ e
    omega
  | false =>
    go_wp2
    go_ret
    rw [hw]
    exact ⟨rfl, v', lm2, h2, hKw, HV.out⟩
end Go.Proofs.Ybulkdnfc
