/-
  Seat b5711aF: the law's function (3) cut at its statements; small facts of its walks.
-/
import Derived.Test.YbulkdngeFmtOut
import Derived.Deep.CutBlock
namespace Go.Proofs.YbulkdngeFmt
open Go.RowKit Go.Extern.Stop Go.Stop Go.Extern
set_option linter.unusedVariables false

/-- The statement's first region. -/
def headIs (n : Nat) : Code → Bool
  | .region k _ _ => k == n
  | .seq a _ => headIs n a
  | .block _ a => headIs n a
  | _ => false
/-- The code from that statement on. -/
def tailFrom (n : Nat) : Code → Option Code
  | .seq a b => if headIs n a then some (.seq a b) else tailFrom n b
  | _ => none

theorem eq23 (w : World) (a : Option Addr) (n c n' c' : Nat) : (binOp .eql 23 (.slice a n c) (.slice none n' c')).run Ybaf.prog w = .ok (.bool a.isNone) w := Lib.run_eql_slice_nil w _ _ a n c n' c' Ybaf.underlying23

theorem col_val (x : Int) (j : Nat) (h0 : 0 ≤ x) (h1 : x ≤ 255) : (RowKit.wrap64 x).tmod (j : Int) = ((x.toNat % j : Nat) : Int) := by
  obtain ⟨y, rfl⟩ : ∃ y : Nat, x = y := ⟨x.toNat, by omega⟩
  have e : RowKit.wrap64 (y : Int) = y := by unfold RowKit.wrap64; omega
  rw [e, Int.toNat_natCast, Int.ofNat_tmod]
theorem newsI (W : World) (x : Nat) : ∀ (j : Nat) u, ([Value.int .i64 (x : Int)] : List Value)[j]? = some u → (W.alloc (Obj.cells #[.int .i64 (x : Int)] 3)).cell? ((⟨W.heap.size, 0, none⟩ : Addr).add j) = some u := by
  refine World.news_of_block (cs := #[.int .i64 (x : Int)]) (t := 3) (fr := (0, 0)) ?_
  exact Deep.blk_alloc_new W _
theorem OI.below {w w' : World} {B : Nat} {v : Value} {ks : Nat → Nat} {m : Nat} (h : OI w B v ks m) (hb : Below w.heap.size w w') : OI w' B v ks m := by
  refine ⟨⟨h.own.1, ?_⟩, by have := h.bs; have := hb.size; omega⟩
  rcases h.own.2 with hz | ⟨g, cap, cur, rfl, hB, hg, rest⟩
  · exact .inl hz
  · exact .inr ⟨g, cap, cur, rfl, hB, (hb.block g (h.ge rfl).2).trans hg, rest⟩

/-- The index as it was made, and the sentinel behind it. -/
structure IxNew (w : World) (X : Nat) (nm : ByteArray) (cols : Value) : Prop where
  ix : Ix w X nm cols .nilIface
  f6 : w.frozen? ⟨X, 6, none⟩ = false
  e0 : w.cell? ⟨X + 1, 0, none⟩ = some (.string nm)
  sz : w.heap.size = X + 2
theorem ixNew_of (w0 : World) (nm es : ByteArray) (cols : Value) : IxNew ((w0.alloc (Obj.cells #[.string nm, .bool false, .pointer none, cols, .nilIface, .string es, .nilIface, .pointer none, .pointer none] 44)).alloc (Obj.cells #[.string nm] 62)) w0.heap.size nm cols :=
  ⟨⟨by simp [go_sem], by simp [go_sem], by simp [go_sem]⟩, by simp [go_sem], by simp [go_sem], by simp⟩
theorem pred_alloc (w : World) (k i : Int) (fb : Nat) (s : ByteArray) (er : Value) : Pred (w.alloc (Obj.cells #[.int .u8 k, .int .i64 i, .float .f64 fb, .string s, er, .int .i64 0, .int .i64 0] 50)) w.heap.size k i fb s er :=
  ⟨by simp [go_sem], by simp [go_sem], by simp [go_sem], by simp [go_sem], by simp [go_sem], by simp [go_sem], by simp [go_sem], by simp [go_sem], by simp [go_sem]⟩
theorem PredIs.ptr {w : World} {pv : Int} {X E : Nat} {q : Int} {v pi : Value} (h : PredIs w pv X E q v pi) : ∃ po, v = .pointer po := by
  rcases h with ⟨_, rfl, _⟩ | ⟨_, N, rfl, _⟩ | ⟨_, N, rfl, _⟩ | ⟨_, N, rfl, _⟩
  · exact ⟨_, rfl⟩
  · exact ⟨_, rfl⟩
  · exact ⟨_, rfl⟩
  · exact ⟨_, rfl⟩
theorem frozen_of_block {w w' : World} {p : Addr} (h : w'.heap[p.block]? = w.heap[p.block]?) : w'.frozen? p = w.frozen? p := by
  unfold World.frozen?
  rw [h]
theorem cell_other {w : World} {b o b' o' : Nat} (v : Value) (x : Option Nat) (h : b' ≠ b) : (w.setCell ⟨b, o, none⟩ v).cell? ⟨b', o', none⟩ = w.cell? ⟨b', o', none⟩ :=
  World.cell?_of_block (Below.heap_setCell _ _ _ _ (fun e => h e))
theorem frozen_other {w : World} {b o b' o' : Nat} (v : Value) (h : b' ≠ b) : (w.setCell ⟨b, o, none⟩ v).frozen? ⟨b', o', none⟩ = w.frozen? ⟨b', o', none⟩ :=
  frozen_of_block (Below.heap_setCell _ _ _ _ (fun e => h e))
theorem Ix.set {w : World} {X : Nat} {nm : ByteArray} {cols p0 : Value} (h : Ix w X nm cols p0) (v : Value) : Ix (w.setCell ⟨X, 6, none⟩ v) X nm cols v := by
  obtain ⟨a, b, c⟩ := h
  exact ⟨by simp [go_sem, a], by simp [go_sem, b], by simp [go_sem, c]⟩
theorem Pred.set {w : World} {N X : Nat} {k i : Int} {fb : Nat} {s : ByteArray} {er : Value} (h : Pred w N k i fb s er) (hX : X ≠ N) (v : Value) : Pred (w.setCell ⟨X, 6, none⟩ v) N k i fb s er :=
  ⟨(cell_other v none (Ne.symm hX)).trans h.c0, (cell_other v none (Ne.symm hX)).trans h.c1, (cell_other v none (Ne.symm hX)).trans h.c2, (cell_other v none (Ne.symm hX)).trans h.c3, (cell_other v none (Ne.symm hX)).trans h.c4, (cell_other v none (Ne.symm hX)).trans h.c5, (cell_other v none (Ne.symm hX)).trans h.c6, (frozen_other v (Ne.symm hX)).trans h.f5, (frozen_other v (Ne.symm hX)).trans h.f6⟩
theorem PredIs.set {w : World} {pv : Int} {X E : Nat} {q : Int} {v pi : Value} (h : PredIs w pv X E q v pi) (y : Value) : PredIs (w.setCell ⟨X, 6, none⟩ y) pv X E q v pi := by
  rcases h with ⟨rfl, rfl, rfl⟩ | ⟨rfl, N, rfl, rfl, hX, hE, h, hL⟩ | ⟨rfl, N, rfl, rfl, hX, h, hL⟩ | ⟨rfl, N, rfl, rfl, hX, h, hL⟩
  · exact .m0
  · exact .m1 N hX hE (h.set hX y) hL
  · exact .m2 N hX (h.set hX y) hL
  · exact .m3 N hX (h.set hX y) hL
theorem isNone_of {ak a2 : Option Addr} {nk ck : Nat} (h : Value.slice ak nk ck = .slice none 0 0 ↔ a2 = none) (hn : ak = none → nk = 0 ∧ ck = 0) : ak.isNone = a2.isNone := by
  cases ak with
  | none => obtain ⟨rfl, rfl⟩ := hn rfl; rw [h.1 rfl]
  | some x => cases a2 with
    | none => exact absurd (h.2 rfl) (by simp)
    | some y => rfl

end Go.Proofs.YbulkdngeFmt
