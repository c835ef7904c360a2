/-
  Seat b5708a: filling the array of one-time prekeys, a clone a round: the world's facts, no walk.
-/
import Derived.Test.YbulkdneoIndex
import Derived.Deep.Slices
namespace Go.Proofs.Ybulkdneo
open Go.RowKit

/-- The zero value of a one-time prekey, cell by cell. -/
def zeroOT : Array Value := #[.slice none 0 0, .slice none 0 0, .string ByteArray.empty, .bool false, .pointer none]
def madeOT (n : Nat) : Array Value := madeCells zeroOT (n * 5)
theorem Yba.info45 : (Yba.prog.info? 45).map (fun i => (i.zero, i.size, i.bytes)) = some (some (.agg zeroOT), 5, 80) := by kernel_rfl

theorem run_make_ot (n : Nat) (hn : n ≤ 1048576) (w : World) :
    (Instr.makeSlice 40 (.int .i64 n) (.int .i64 n)).run Yba.prog w = .ok (.slice (some ⟨w.heap.size, 0, none⟩) n n) (w.alloc (.cells (madeOT n) 45)) := by
  obtain ⟨i, hi, h1, h2, h3⟩ := info_parts Yba.info45
  have := run_make (P := Yba.prog) w 40 45 i _ Yba.underlying40 hi h1 .i64 .i64 n n (by omega) (Int.le_refl _) (by rw [h3]; omega) (by omega)
  rw [this, h2]
  rfl

theorem madeOT_at (n i : Nat) (hi : i < n * 5) : (madeOT n)[i]? = some (zeroOT[i % 5]!) := by
  unfold madeOT madeCells
  have h5 : zeroOT.size = 5 := rfl
  simp [hi, h5]

structure Fill (w2 wr : World) (n k : Nat) (L : Nat → Nat) (Z : Nat → List Int) (f : Nat → Value) : Prop where
  row : wr.rowIs w2.heap.size 45 (n * 5) f
  bel : Below w2.heap.size w2 wr
  c1 : ∀ j, j < n → f (j * 5 + 1) = .slice none 0 0
  c2 : ∀ j, j < n → f (j * 5 + 1 + 1) = .string ByteArray.empty
  c3 : ∀ j, j < n → f (j * 5 + 1 + 1 + 1) = .bool false
  c4 : ∀ j, j < n → f (j * 5 + 1 + 1 + 1 + 1) = .pointer none
  done : ∀ j, j < k → ∃ a c, f (j * 5) = .slice a (L j) c ∧ Row wr a (L j) c (Z j) ∧ ∀ x : Addr, a = some x → w2.heap.size < x.block
  todo : ∀ j, k ≤ j → j < n → f (j * 5) = .slice none 0 0

theorem size_madeOT (n : Nat) : (madeOT n).size = n * 5 := size_madeCells _ _

theorem Fill.start (w2 : World) (n : Nat) (L : Nat → Nat) (Z : Nat → List Int) : Fill w2 (w2.alloc (.cells (madeOT n) 45)) n 0 L Z (fun i => zeroOT[i % 5]!) := by
  refine ⟨?_, (Below.refl _ _).alloc (Nat.le_refl _) _, ?_, ?_, ?_, ?_, fun j hj => absurd hj (Nat.not_lt_zero _), ?_⟩
  · have := World.rowIs_alloc w2 (madeOT n) 45 (fun i => zeroOT[i % 5]!) (fun i hi => madeOT_at n i (by rwa [size_madeOT] at hi))
    rwa [size_madeOT] at this
  · intro j _; show zeroOT[(j * 5 + 1) % 5]! = _; rw [show (j * 5 + 1) % 5 = 1 by omega]; rfl
  · intro j _; show zeroOT[(j * 5 + 1 + 1) % 5]! = _; rw [show (j * 5 + 1 + 1) % 5 = 2 by omega]; rfl
  · intro j _; show zeroOT[(j * 5 + 1 + 1 + 1) % 5]! = _; rw [show (j * 5 + 1 + 1 + 1) % 5 = 3 by omega]; rfl
  · intro j _; show zeroOT[(j * 5 + 1 + 1 + 1 + 1) % 5]! = _; rw [show (j * 5 + 1 + 1 + 1 + 1) % 5 = 4 by omega]; rfl
  · intro j _ _; show zeroOT[(j * 5) % 5]! = _; rw [show (j * 5) % 5 = 0 by omega]; rfl

/-- The place that the next round writes, in the world behind the clone. -/
theorem Fill.next {w2 wr w1 : World} {n k : Nat} {L : Nat → Nat} {Z : Nat → List Int} {f : Nat → Value} (h : Fill w2 wr n k L Z f) (hk : k < n) (hb : Below wr.heap.size wr w1) :
    w1.cell? ⟨w2.heap.size, k * 5, none⟩ = some (.slice none 0 0) ∧ w1.frozen? ⟨w2.heap.size, k * 5, none⟩ = false := by
  have hr := h.row.of_block (hb.block _ h.row.lt)
  exact ⟨by rw [hr.cell (by omega), h.todo k (Nat.le_refl _) hk], hr.frozen _⟩

theorem Row.setCell {w : World} {a : Option Addr} {n c : Nat} {zs : List Int} (h : Row w a n c zs) {p : Addr} (hp : ∀ x : Addr, a = some x → x.block ≠ p.block) (v : Value) : Row (w.setCell p v) a n c zs := by
  refine ⟨h.len, h.cap, h.nil, h.wf, fun hn => ?_⟩
  obtain ⟨b, off, rfl, hc⟩ := h.spot hn
  refine ⟨b, off, rfl, fun i hi => ?_⟩
  rw [← hc i hi]
  exact World.cell?_of_block (Deep.blk_setCell_other w p v b (hp ⟨b, off, none⟩ rfl))

theorem Fill.step {w2 wr w1 : World} {n k : Nat} {L : Nat → Nat} {Z : Nat → List Int} {f : Nat → Value} (h : Fill w2 wr n k L Z f) (hb : Below wr.heap.size wr w1) {a : Option Addr} {c : Nat}
    (hr : Row w1 a (L k) c (Z k)) (hf : ∀ x : Addr, a = some x → wr.heap.size ≤ x.block) :
    Fill w2 (w1.setCell ⟨w2.heap.size, k * 5, none⟩ (.slice a (L k) c)) n (k + 1) L Z (fun j => if j = k * 5 then .slice a (L k) c else f j) := by
  have hr1 := h.row.of_block (hb.block _ h.row.lt)
  have hlt := h.row.lt
  refine ⟨hr1.set _ _, (h.bel.trans (hb.mono (by omega))).setCell (Nat.le_refl _) _, ?_, ?_, ?_, ?_, ?_, ?_⟩
  · intro j hj; show (if j * 5 + 1 = k * 5 then _ else _) = _; rw [if_neg (by omega)]; exact h.c1 j hj
  · intro j hj; show (if j * 5 + 1 + 1 = k * 5 then _ else _) = _; rw [if_neg (by omega)]; exact h.c2 j hj
  · intro j hj; show (if j * 5 + 1 + 1 + 1 = k * 5 then _ else _) = _; rw [if_neg (by omega)]; exact h.c3 j hj
  · intro j hj; show (if j * 5 + 1 + 1 + 1 + 1 = k * 5 then _ else _) = _; rw [if_neg (by omega)]; exact h.c4 j hj
  · intro j hj
    rcases Nat.lt_succ_iff_lt_or_eq.1 hj with h1 | rfl
    · obtain ⟨a', c', e1, e2, e3⟩ := h.done j h1
      refine ⟨a', c', ?_, (e2.below hb).setCell (fun x hx => ?_) _, e3⟩
      · show (if j * 5 = k * 5 then _ else _) = _; rw [if_neg (by omega)]; exact e1
      · have := e3 x hx; show x.block ≠ w2.heap.size; omega
    · refine ⟨a, c, ?_, hr.setCell (fun x hx => ?_) _, fun x hx => ?_⟩
      · show (if j * 5 = j * 5 then _ else _) = _; rw [if_pos rfl]
      · have := hf x hx; show x.block ≠ w2.heap.size; omega
      · have := hf x hx; omega
  · intro j h1 h2; show (if j * 5 = k * 5 then _ else _) = _; rw [if_neg (by omega)]; exact h.todo j (by omega) h2

/-- All filled: the array as 'oneTimeIndex' wants it. -/
theorem Fill.keys {w2 wr : World} {n : Nat} {L : Nat → Nat} {Z : Nat → List Int} {f : Nat → Value} (h : Fill w2 wr n n L Z f) : ∃ (A : Nat → Option Addr) (C : Nat → Nat), Keys wr w2.heap.size n A L C Z := by
  obtain ⟨y, hy⟩ := Deep.choose_lt (α := Option Addr × Nat) (n := n) (p := fun j y => f (j * 5) = .slice y.1 (L j) y.2 ∧ Row wr y.1 (L j) y.2 (Z j)) (fun j hj => by
    obtain ⟨a, c, e1, e2, _⟩ := h.done j hj
    exact ⟨(a, c), e1, e2⟩)
  refine ⟨fun j => (y j).1, fun j => (y j).2, ⟨fun j hj => ?_, fun j hj => ?_, fun j hj => ?_, fun j hj => ?_, fun j hj => ?_, fun j hj => (hy j hj).2⟩⟩
  · rw [h.row.cell (by omega), (hy j hj).1]
  · rw [h.row.cell (by omega), h.c1 j hj]
  · rw [h.row.cell (by omega), h.c2 j hj]
  · rw [h.row.cell (by omega), h.c3 j hj]
  · rw [h.row.cell (by omega), h.c4 j hj]

end Go.Proofs.Ybulkdneo
