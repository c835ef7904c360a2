/-
  Seat b5709a: the queue in memory.
-/
import Derived.Test.YbulkdnfcTime
import Derived.Deep.RegionHeld3
namespace Go.Proofs.Ybulkdnfc
open Go.RowKit

/-- All blocks that were there are as they were, but for those of T. -/
structure Kept (T : Nat → Prop) (w w' : World) : Prop where
  os : w'.os = w.os
  tape : w'.tape = w.tape
  output : w'.output = w.output
  size : w.heap.size ≤ w'.heap.size
  block : ∀ k, k < w.heap.size → ¬ T k → w'.heap[k]? = w.heap[k]?

theorem Kept.refl (T : Nat → Prop) (w : World) : Kept T w w := ⟨rfl, rfl, rfl, Nat.le_refl _, fun _ _ _ => rfl⟩
theorem Kept.trans {T : Nat → Prop} {a b c : World} (h : Kept T a b) (k : Kept T b c) : Kept T a c :=
  ⟨k.os.trans h.os, k.tape.trans h.tape, k.output.trans h.output, Nat.le_trans h.size k.size, fun i hi ht => (k.block i (Nat.lt_of_lt_of_le hi h.size) ht).trans (h.block i hi ht)⟩
theorem Kept.of_below {T : Nat → Prop} {w w' : World} (h : Below w.heap.size w w') : Kept T w w' := ⟨h.os, h.tape, h.output, h.size, fun k hk _ => h.block k hk⟩
theorem Kept.setCell {T : Nat → Prop} {a w : World} (h : Kept T a w) {p : Addr} (hp : T p.block) (v : Value) : Kept T a (w.setCell p v) :=
  h.trans ⟨rfl, rfl, rfl, by simp [World.setCell], fun k _ ht => Below.heap_setCell _ _ _ _ (fun e => ht (e ▸ hp))⟩
theorem Kept.alloc {T : Nat → Prop} {a w : World} (h : Kept T a w) (o : Obj) : Kept T a (w.alloc o) := h.trans (.of_below ((Below.refl _ _).alloc (Nat.le_refl _) o))
theorem Kept.drew {T : Nat → Prop} {a w : World} (h : Kept T a w) : Kept T a w.drew := ⟨h.os, h.tape, h.output, h.size, h.block⟩
theorem Kept.mono {T T' : Nat → Prop} {a w : World} (h : Kept T a w) (ht : ∀ k, k < a.heap.size → T k → T' k) : Kept T' a w := ⟨h.os, h.tape, h.output, h.size, fun k hk hn => h.block k hk (fun x => hn (ht k hk x))⟩
theorem Kept.below {T : Nat → Prop} {B : Nat} {a w : World} (h : Kept T a w) (hB : B ≤ a.heap.size) (ht : ∀ k, T k → B ≤ k) : Below B a w :=
  ⟨h.os, h.tape, h.output, h.size, fun k hk => h.block k (by omega) (fun x => by have := ht k x; omega)⟩
theorem Kept.cell {T : Nat → Prop} {w w' : World} (h : Kept T w w') {p : Addr} {v : Value} (hv : w.cell? p = some v) (ht : ¬ T p.block) : w'.cell? p = some v := by
  have hlt : p.block < w.heap.size := by
    rcases Nat.lt_or_ge p.block w.heap.size with h1 | h1
    · exact h1
    · exfalso
      have : w.heap[p.block]? = none := by simp [h1]
      simp [World.cell?, this] at hv
  exact (World.cell?_of_block (w := w) (h.block _ hlt ht)).trans hv

/-- What the law's items are. -/
structure Cfg where
  IB : Nat → Nat
  at_ : Nat → Int
  rk : Nat → Int
  m : Nat

structure Cfg.Ok (c : Cfg) : Prop where
  lo : ∀ i, i < c.m → -128 ≤ c.at_ i
  hi : ∀ i, i < c.m → c.at_ i ≤ 127
  rlo : ∀ i, i < c.m → 0 ≤ c.rk i
  rhi : ∀ i, i < c.m → c.rk i ≤ 255
  inj : ∀ i j, i < c.m → j < c.m → c.IB i = c.IB j → i = j
  small : c.m ≤ 4096

/-- Item number id in memory: its instant, rank, index, number. -/
structure Item (c : Cfg) (w : World) (id : Nat) (j : Int) : Prop where
  c0 : w.cell? ⟨c.IB id, 0, none⟩ = some (.int .i64 (c.at_ id))
  c1 : w.cell? ⟨c.IB id, 1, none⟩ = some (.int .u64 (c.rk id))
  c2 : w.cell? ⟨c.IB id, 2, none⟩ = some (.int .i64 j)
  c3 : w.cell? ⟨c.IB id, 3, none⟩ = some (.int .i64 (id : Int))
  f2 : w.frozen? ⟨c.IB id, 2, none⟩ = false

/-- The cells of an entry for item id. -/
def ent (c : Cfg) (id : Nat) : Nat → Value
  | 0 => .int .u64 (wall (c.at_ id))
  | 1 => .int .i64 (ext (c.at_ id))
  | 2 => .pointer none
  | 3 => .int .u64 (c.rk id)
  | _ => .pointer (some ⟨c.IB id, 0, none⟩)

/-- The queue: its field, its array's cells, the items. -/
structure QM (c : Cfg) (w : World) (Q g n cap : Nat) (f : Nat → Value) (J : Nat → Int) : Prop where
  q : w.cell? ⟨Q, 0, none⟩ = some (.slice (some ⟨g, 0, none⟩) n cap)
  qf : w.frozen? ⟨Q, 0, none⟩ = false
  nc : n ≤ cap
  cm : cap ≤ maxLen
  row : w.rowIs g 41 (cap * 5) f
  it : ∀ id, id < c.m → Item c w id (J id)
  qg : Q ≠ g
  iq : ∀ id, id < c.m → c.IB id ≠ Q
  ig : ∀ id, id < c.m → c.IB id ≠ g

/-- The blocks that the queue's operations write. -/
def Tq (c : Cfg) (Q g : Nat) (k : Nat) : Prop := k = g ∨ k = Q ∨ ∃ id, id < c.m ∧ k = c.IB id

theorem Item.keep {c : Cfg} {w w' : World} {id : Nat} {j : Int} (h : Item c w id j) (e : w'.heap[c.IB id]? = w.heap[c.IB id]?) : Item c w' id j :=
  ⟨(World.cell?_of_block e).trans h.c0, (World.cell?_of_block e).trans h.c1, (World.cell?_of_block e).trans h.c2, (World.cell?_of_block e).trans h.c3, (World.frozen?_of_block e).trans h.f2⟩

theorem cell_lt {w : World} {p : Addr} {v : Value} (h : w.cell? p = some v) : p.block < w.heap.size := by
  rcases Nat.lt_or_ge p.block w.heap.size with h1 | h1
  · exact h1
  · exfalso
    have : w.heap[p.block]? = none := by simp [h1]
    simp [World.cell?, this] at h

/-- A step that turns no old block. -/
theorem QM.below {c : Cfg} {w w' : World} {Q g n cap : Nat} {f : Nat → Value} {J : Nat → Int} (h : QM c w Q g n cap f J) (hb : Below w.heap.size w w') : QM c w' Q g n cap f J := by
  have hQ := cell_lt h.q
  exact ⟨(hb.cell hQ).trans h.q, (hb.frozen hQ).trans h.qf, h.nc, h.cm, h.row.of_block (hb.block _ h.row.lt), fun id hid => (h.it id hid).keep (hb.block _ (cell_lt (h.it id hid).c0)), h.qg, h.iq, h.ig⟩

set_option maxHeartbeats 400000 in
/-- setIndex. -/
theorem setIndex_any (w : World) (b : Nat) (j v : Int) (hc : w.cell? ⟨b, 2, none⟩ = some (.int .i64 j)) (hf : w.frozen? ⟨b, 2, none⟩ = false) :
    Calls Yba.prog 41 #[.pointer (some ⟨b, 0, none⟩), .int .i64 v] w fun e w' => e = .returned (.tuple #[]) ∧ w' = w.setCell ⟨b, 2, none⟩ (.int .i64 v) := by
  go_enter Yba.func41, Yba.ntmps41
  go_wp2
  go_end0
  exact ⟨rfl, rfl⟩

/-- A first step whose outcome is known. -/
theorem andThen_known {α β : Type} {P : Program} {s : Sem α} {w w' : World} {r : α} {k : α → World → Result β} (h : Sem.run P s w = .ok r w') : (Sem.run P s w).andThen k = k r w' := by rw [h]; rfl

/-- The world behind the store of an entry. -/
def put5 (w : World) (B o : Nat) (v0 v1 v2 v3 v4 : Value) : World :=
  ((((w.setCell ⟨B, o, none⟩ v0).setCell ⟨B, o + 1, none⟩ v1).setCell ⟨B, o + 2, none⟩ v2).setCell ⟨B, o + 3, none⟩ v3).setCell ⟨B, o + 4, none⟩ v4
theorem put5_other {w : World} {B o : Nat} {v0 v1 v2 v3 v4 : Value} (b : Nat) (hb : b ≠ B) : (put5 w B o v0 v1 v2 v3 v4).heap[b]? = w.heap[b]? := by
  unfold put5
  rw [Deep.blk_setCell_other _ _ _ _ hb, Deep.blk_setCell_other _ _ _ _ hb, Deep.blk_setCell_other _ _ _ _ hb, Deep.blk_setCell_other _ _ _ _ hb, Deep.blk_setCell_other _ _ _ _ hb]
theorem heap_drew' (w : World) : w.drew.heap = w.heap := rfl
theorem put5d_other {w : World} {B o : Nat} {v0 v1 v2 v3 v4 : Value} (b : Nat) (hb : b ≠ B) : (put5 w B o v0 v1 v2 v3 v4).drew.heap[b]? = w.heap[b]? := by
  rw [heap_drew']
  exact put5_other b hb
theorem put5d_cell {w : World} {B o : Nat} {v0 v1 v2 v3 v4 : Value} (b o' : Nat) (hb : b ≠ B) : (put5 w B o v0 v1 v2 v3 v4).drew.cell? ⟨b, o', none⟩ = w.cell? ⟨b, o', none⟩ := by
  rw [World.cell?_drew]
  exact World.cell?_of_block (put5_other b hb)
theorem Kept.put5 {T : Nat → Prop} {a w : World} (h : Kept T a w) {B o : Nat} (hB : T B) (v0 v1 v2 v3 v4 : Value) : Kept T a (put5 w B o v0 v1 v2 v3 v4) := by
  unfold Ybulkdnfc.put5
  exact ((((h.setCell hB _).setCell hB _).setCell hB _).setCell hB _).setCell hB _
theorem rowIs_put5 {w : World} {b t n : Nat} {f : Nat → Value} (h : w.rowIs b t n f) (o : Nat) (v0 v1 v2 v3 v4 : Value) :
    ∃ f', (put5 w b o v0 v1 v2 v3 v4).rowIs b t n f' ∧ (∀ j, j < o ∨ o + 5 ≤ j → f' j = f j) ∧ f' o = v0 ∧ f' (o + 1) = v1 ∧ f' (o + 2) = v2 ∧ f' (o + 3) = v3 ∧ f' (o + 4) = v4 := by
  refine ⟨_, ((((h.set _ _).set _ _).set _ _).set _ _).set _ _, fun j hj => ?_, ?_, ?_, ?_, ?_, ?_⟩
  · show (if j = o + 4 then _ else if j = o + 3 then _ else if j = o + 2 then _ else if j = o + 1 then _ else if j = o then _ else _) = _
    rw [if_neg (by omega), if_neg (by omega), if_neg (by omega), if_neg (by omega), if_neg (by omega)]
  · show (if o = o + 4 then _ else if o = o + 3 then _ else if o = o + 2 then _ else if o = o + 1 then _ else if o = o then _ else _) = _
    rw [if_neg (by omega), if_neg (by omega), if_neg (by omega), if_neg (by omega), if_pos rfl]
  · show (if o + 1 = o + 4 then _ else if o + 1 = o + 3 then _ else if o + 1 = o + 2 then _ else if o + 1 = o + 1 then _ else _) = _
    rw [if_neg (by omega), if_neg (by omega), if_neg (by omega), if_pos rfl]
  · show (if o + 2 = o + 4 then _ else if o + 2 = o + 3 then _ else if o + 2 = o + 2 then _ else _) = _
    rw [if_neg (by omega), if_neg (by omega), if_pos rfl]
  · show (if o + 3 = o + 4 then _ else if o + 3 = o + 3 then _ else _) = _
    rw [if_neg (by omega), if_pos rfl]
  · show (if o + 4 = o + 4 then _ else _) = _
    rw [if_pos rfl]

def upd (J : Nat → Int) (x : Nat) (v : Int) : Nat → Int := fun i => if i = x then v else J i
theorem upd_same (J : Nat → Int) (x : Nat) (v : Int) : upd J x v x = v := by simp [upd]
theorem upd_other (J : Nat → Int) (x : Nat) (v : Int) (i : Nat) (h : i ≠ x) : upd J x v i = J i := by simp [upd, h]

/-- f' is f with entry k written anew for item x. -/
def PutAt (c : Cfg) (f f' : Nat → Value) (k x : Nat) : Prop := (∀ j, j < k * 5 ∨ k * 5 + 5 ≤ j → f' j = f j) ∧ ∀ t, t < 5 → f' (k * 5 + t) = ent c x t

theorem QM.putEntry {c : Cfg} {w : World} {Q g n cap : Nat} {f : Nat → Value} {J : Nat → Int} (h : QM c w Q g n cap f J) (k x : Nat) : ∃ f', QM c ((put5 w g (k * 5) (.int .u64 (wall (c.at_ x))) (.int .i64 (ext (c.at_ x))) (.pointer none) (.int .u64 (c.rk x)) (.pointer (some ⟨c.IB x, 0, none⟩))).drew) Q g n cap f' J ∧ PutAt c f f' k x := by
  obtain ⟨f', hr, ho, e0, e1, e2, e3, e4⟩ := rowIs_put5 h.row (k * 5) (.int .u64 (wall (c.at_ x))) (.int .i64 (ext (c.at_ x))) (.pointer none) (.int .u64 (c.rk x)) (.pointer (some ⟨c.IB x, 0, none⟩))
  refine ⟨f', ⟨(put5d_cell Q 0 h.qg).trans h.q, ?_, h.nc, h.cm, ?_, fun id hid => (h.it id hid).keep (put5d_other _ (h.ig id hid)), h.qg, h.iq, h.ig⟩, ho, fun t ht => ?_⟩
  · refine (World.frozen?_of_block ?_).trans h.qf
    exact put5d_other Q h.qg
  · exact hr.of_block (by rw [heap_drew'])
  · match t, ht with
    | 0, _ => exact e0
    | 1, _ => exact e1
    | 2, _ => exact e2
    | 3, _ => exact e3
    | 4, _ => exact e4

theorem QM.putIdx {c : Cfg} {w : World} {Q g n cap : Nat} {f : Nat → Value} {J : Nat → Int} (ok : c.Ok) (h : QM c w Q g n cap f J) (x : Nat) (hx : x < c.m) (v : Int) : QM c (w.setCell ⟨c.IB x, 2, none⟩ (.int .i64 v)) Q g n cap f (upd J x v) := by
  have far : ∀ b, b ≠ c.IB x → (w.setCell ⟨c.IB x, 2, none⟩ (.int .i64 v)).heap[b]? = w.heap[b]? := fun b hb => Deep.blk_setCell_other _ _ _ _ hb
  refine ⟨(World.cell?_of_block (far Q (h.iq x hx).symm)).trans h.q, by rw [World.frozen?_setCell]; exact h.qf, h.nc, h.cm, h.row.of_block (far g (h.ig x hx).symm), fun id hid => ?_, h.qg, h.iq, h.ig⟩
  by_cases e : id = x
  · subst e
    rw [upd_same]
    have hi := h.it id hid
    refine ⟨?_, ?_, ?_, ?_, by rw [World.frozen?_setCell]; exact hi.f2⟩
    · simpa [go_sem] using hi.c0
    · simpa [go_sem] using hi.c1
    · simp [go_sem, hi.c2]
    · simpa [go_sem] using hi.c3
  · rw [upd_other _ _ _ _ e]
    exact (h.it id hid).keep (far _ (fun he => e (ok.inj id x hid hx he)))

set_option maxHeartbeats 1000000 in
theorem set_any (c : Cfg) (w : World) (Q g n cap : Nat) (f : Nat → Value) (J : Nat → Int) (h : QM c w Q g n cap f J) (k x : Nat) (hk : k < n) (hx : x < c.m) (ok : c.Ok) :
    Calls Yba.prog 21 #[.pointer (some ⟨Q, 0, none⟩), .int .i64 k, .agg #[.int .u64 (wall (c.at_ x)), .int .i64 (ext (c.at_ x)), .pointer none, .int .u64 (c.rk x), .pointer (some ⟨c.IB x, 0, none⟩)]] w
      fun e w' => e = .returned (.tuple #[]) ∧ ∃ f', QM c w' Q g n cap f' (upd J x k) ∧ PutAt c f f' k x ∧ Kept (Tq c Q g) w w' := by
  have hb1 := (Below.refl w.heap.size w).alloc (Nat.le_refl _) (Obj.cells #[.int .u64 (wall (c.at_ x)), .int .i64 (ext (c.at_ x)), .pointer none, .int .u64 (c.rk x), .pointer (some ⟨c.IB x, 0, none⟩)] 41)
  have hQ := cell_lt h.q
  have hG := h.row.lt
  have hm := h.nc
  have hki : (k : Int) < (n : Int) := by omega
  go_enter Yba.func21, Yba.ntmps21
  go_wp2
  obtain ⟨w1, hw1⟩ : ∃ w1, w1 = w.alloc (Obj.cells #[.int .u64 (wall (c.at_ x)), .int .i64 (ext (c.at_ x)), .pointer none, .int .u64 (c.rk x), .pointer (some ⟨c.IB x, 0, none⟩)] 41) := ⟨_, rfl⟩
  have S0c : Hid (w1.drew.cell? ⟨Q, 0, none⟩ = some (.slice (some ⟨g, 0, none⟩) n cap) ∧ w1.drew.cell? ⟨w.heap.size, 0, none⟩ = some (.int .u64 (wall (c.at_ x))) ∧ w1.drew.cell? ⟨w.heap.size, 1, none⟩ = some (.int .i64 (ext (c.at_ x))) ∧ w1.drew.cell? ⟨w.heap.size, 2, none⟩ = some (.pointer none) ∧ w1.drew.cell? ⟨w.heap.size, 3, none⟩ = some (.int .u64 (c.rk x)) ∧ w1.drew.cell? ⟨w.heap.size, 4, none⟩ = some (.pointer (some ⟨c.IB x, 0, none⟩))) := by
    refine ⟨?_, ?_, ?_, ?_, ?_, ?_⟩
    · rw [hw1, World.cell?_drew]; exact (hb1.cell hQ).trans h.q
    all_goals (rw [hw1]; simp [go_sem])
  have hsz : w.heap.size < w1.heap.size := by rw [hw1]; simp
  rw [← hw1] at hb1 ⊢
  clear hw1
  have h1 := h.below hb1
  have qc0 : w1.cell? ⟨g, k * 5, none⟩ = some (f (k * 5)) := h1.row.cell (by omega)
  have qf0 : w1.frozen? ⟨g, k * 5, none⟩ = false := h1.row.frozen _
  have qc1 : w1.cell? ⟨g, k * 5 + 1, none⟩ = some (f (k * 5 + 1)) := h1.row.cell (by omega)
  have qf1 : w1.frozen? ⟨g, k * 5 + 1, none⟩ = false := h1.row.frozen _
  have qc2 : w1.cell? ⟨g, k * 5 + 1 + 1, none⟩ = some (f (k * 5 + 1 + 1)) := h1.row.cell (by omega)
  have qf2 : w1.frozen? ⟨g, k * 5 + 1 + 1, none⟩ = false := h1.row.frozen _
  have qc3 : w1.cell? ⟨g, k * 5 + 1 + 1 + 1, none⟩ = some (f (k * 5 + 1 + 1 + 1)) := h1.row.cell (by omega)
  have qf3 : w1.frozen? ⟨g, k * 5 + 1 + 1 + 1, none⟩ = false := h1.row.frozen _
  have qc4 : w1.cell? ⟨g, k * 5 + 1 + 1 + 1 + 1, none⟩ = some (f (k * 5 + 1 + 1 + 1 + 1)) := h1.row.cell (by omega)
  have qf4 : w1.frozen? ⟨g, k * 5 + 1 + 1 + 1 + 1, none⟩ = false := h1.row.frozen _
  have S1c : Hid ((((((w1.setCell ⟨g, k * 5, none⟩ (.int .u64 (wall (c.at_ x)))).setCell ⟨g, k * 5 + 1, none⟩ (.int .i64 (ext (c.at_ x)))).setCell ⟨g, k * 5 + 2, none⟩ (.pointer none)).setCell ⟨g, k * 5 + 3, none⟩ (.int .u64 (c.rk x))).setCell ⟨g, k * 5 + 4, none⟩ (.pointer (some ⟨c.IB x, 0, none⟩))).drew.cell? ⟨Q, 0, none⟩ = some (.slice (some ⟨g, 0, none⟩) n cap) ∧ (((((w1.setCell ⟨g, k * 5, none⟩ (.int .u64 (wall (c.at_ x)))).setCell ⟨g, k * 5 + 1, none⟩ (.int .i64 (ext (c.at_ x)))).setCell ⟨g, k * 5 + 2, none⟩ (.pointer none)).setCell ⟨g, k * 5 + 3, none⟩ (.int .u64 (c.rk x))).setCell ⟨g, k * 5 + 4, none⟩ (.pointer (some ⟨c.IB x, 0, none⟩))).drew.cell? ⟨w.heap.size, 0, none⟩ = some (.int .u64 (wall (c.at_ x))) ∧ (((((w1.setCell ⟨g, k * 5, none⟩ (.int .u64 (wall (c.at_ x)))).setCell ⟨g, k * 5 + 1, none⟩ (.int .i64 (ext (c.at_ x)))).setCell ⟨g, k * 5 + 2, none⟩ (.pointer none)).setCell ⟨g, k * 5 + 3, none⟩ (.int .u64 (c.rk x))).setCell ⟨g, k * 5 + 4, none⟩ (.pointer (some ⟨c.IB x, 0, none⟩))).drew.cell? ⟨w.heap.size, 1, none⟩ = some (.int .i64 (ext (c.at_ x))) ∧ (((((w1.setCell ⟨g, k * 5, none⟩ (.int .u64 (wall (c.at_ x)))).setCell ⟨g, k * 5 + 1, none⟩ (.int .i64 (ext (c.at_ x)))).setCell ⟨g, k * 5 + 2, none⟩ (.pointer none)).setCell ⟨g, k * 5 + 3, none⟩ (.int .u64 (c.rk x))).setCell ⟨g, k * 5 + 4, none⟩ (.pointer (some ⟨c.IB x, 0, none⟩))).drew.cell? ⟨w.heap.size, 2, none⟩ = some (.pointer none) ∧ (((((w1.setCell ⟨g, k * 5, none⟩ (.int .u64 (wall (c.at_ x)))).setCell ⟨g, k * 5 + 1, none⟩ (.int .i64 (ext (c.at_ x)))).setCell ⟨g, k * 5 + 2, none⟩ (.pointer none)).setCell ⟨g, k * 5 + 3, none⟩ (.int .u64 (c.rk x))).setCell ⟨g, k * 5 + 4, none⟩ (.pointer (some ⟨c.IB x, 0, none⟩))).drew.cell? ⟨w.heap.size, 3, none⟩ = some (.int .u64 (c.rk x)) ∧ (((((w1.setCell ⟨g, k * 5, none⟩ (.int .u64 (wall (c.at_ x)))).setCell ⟨g, k * 5 + 1, none⟩ (.int .i64 (ext (c.at_ x)))).setCell ⟨g, k * 5 + 2, none⟩ (.pointer none)).setCell ⟨g, k * 5 + 3, none⟩ (.int .u64 (c.rk x))).setCell ⟨g, k * 5 + 4, none⟩ (.pointer (some ⟨c.IB x, 0, none⟩))).drew.cell? ⟨w.heap.size, 4, none⟩ = some (.pointer (some ⟨c.IB x, 0, none⟩))) := by
    obtain ⟨k0, k1, k2, k3, k4, k5⟩ := S0c.out
    simp only [World.cell?_drew] at k0 k1 k2 k3 k4 k5
    exact ⟨(put5d_cell Q 0 h.qg).trans k0, (put5d_cell _ 0 (by omega)).trans k1, (put5d_cell _ 1 (by omega)).trans k2, (put5d_cell _ 2 (by omega)).trans k3, (put5d_cell _ 3 (by omega)).trans k4, (put5d_cell _ 4 (by omega)).trans k5⟩
  obtain ⟨f', hp, hat⟩ := h1.putEntry k x
  have HP : Hid (QM c ((put5 w1 g (k * 5) (.int .u64 (wall (c.at_ x))) (.int .i64 (ext (c.at_ x))) (.pointer none) (.int .u64 (c.rk x)) (.pointer (some ⟨c.IB x, 0, none⟩))).drew) Q g n cap f' J) := hp
  have HK : Hid (Kept (Tq c Q g) w ((put5 w1 g (k * 5) (.int .u64 (wall (c.at_ x))) (.int .i64 (ext (c.at_ x))) (.pointer none) (.int .u64 (c.rk x)) (.pointer (some ⟨c.IB x, 0, none⟩))).drew)) := ((Kept.of_below hb1).put5 (.inl rfl) _ _ _ _ _).drew
  clear hp
  go_region_held3 (fun w' => w'.cell? ⟨Q, 0, none⟩ = some (.slice (some ⟨g, 0, none⟩) n cap) ∧ w'.cell? ⟨w.heap.size, 0, none⟩ = some (.int .u64 (wall (c.at_ x))) ∧ w'.cell? ⟨w.heap.size, 1, none⟩ = some (.int .i64 (ext (c.at_ x))) ∧ w'.cell? ⟨w.heap.size, 2, none⟩ = some (.pointer none) ∧ w'.cell? ⟨w.heap.size, 3, none⟩ = some (.int .u64 (c.rk x)) ∧ w'.cell? ⟨w.heap.size, 4, none⟩ = some (.pointer (some ⟨c.IB x, 0, none⟩)))
    (first | with_reducible exact S0c.out | with_reducible exact S1c.out)
    (fail)
  clear qc0 qc1 qc2 qc3 qc4 qf0 qf1 qf2 qf3 qf4
  obtain ⟨w2, hw2⟩ : ∃ w2, w2 = (put5 w1 g (k * 5) (.int .u64 (wall (c.at_ x))) (.int .i64 (ext (c.at_ x))) (.pointer none) (.int .u64 (c.rk x)) (.pointer (some ⟨c.IB x, 0, none⟩))).drew := ⟨_, rfl⟩
  have c4 : w2.cell? ⟨w.heap.size, 4, none⟩ = some (.pointer (some ⟨c.IB x, 0, none⟩)) := by rw [hw2]; exact S1c.out.2.2.2.2.2
  rw [← hw2] at HP HK
  have hw2' : Hid (w2 = (put5 w1 g (k * 5) (.int .u64 (wall (c.at_ x))) (.int .i64 (ext (c.at_ x))) (.pointer none) (.int .u64 (c.rk x)) (.pointer (some ⟨c.IB x, 0, none⟩))).drew) := hw2
  change Exit.then _ _ Exit.normal _ ((put5 w1 g (k * 5) (.int .u64 (wall (c.at_ x))) (.int .i64 (ext (c.at_ x))) (.pointer none) (.int .u64 (c.rk x)) (.pointer (some ⟨c.IB x, 0, none⟩))).drew)
  rw [← hw2]
  clear hw2 S0c S1c
  have hi : Item c w2 x (J x) := by
    have := h1.it x hx
    refine this.keep ?_
    rw [hw2'.out]
    exact put5d_other _ (h.ig x hx)
  have i2 := hi.c2
  have f2 := hi.f2
  clear hi
  clear hw2'
  go_wp2_with fail
  rw [andThen_known (r := ((41 : FuncId), Value.pointer (some ⟨c.IB x, 0, none⟩))) (w' := w2) (by kernel_rfl)]
  go_wp2
  go_end0
  go_wp2
  go_end0
  exact ⟨rfl, f', HP.out.putIdx ok x hx _, hat, HK.out.setCell (.inr (.inr ⟨x, hx, rfl⟩)) _⟩

end Go.Proofs.Ybulkdnfc
