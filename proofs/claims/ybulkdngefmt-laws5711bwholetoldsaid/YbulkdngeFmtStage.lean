/-
  Seat b5711aF: the law's stages, the world's facts: the cells that came in; the row filled a value a round; the columns.
-/
import Derived.Test.YbulkdngeFmtEntry
import Derived.Lib.LazyBuf
namespace Go.Proofs.YbulkdngeFmt
open Go.RowKit
set_option linter.unusedVariables false

/-- The cells that came in. -/
structure Cells (w : World) (aa : Option Addr) (n : Nat) (C : Nat → Cel) : Prop where
  spot : 0 < n → ∃ b off, aa = some ⟨b, off, none⟩ ∧ ∀ j, j < n → w.cell? ⟨b, off + j * 4, none⟩ = some (.int .u8 (C j).q) ∧ w.cell? ⟨b, off + j * 4 + 1, none⟩ = some (.int .i64 (C j).i) ∧ w.cell? ⟨b, off + j * 4 + 1 + 1, none⟩ = some (.float .f64 (C j).fb) ∧ w.cell? ⟨b, off + j * 4 + 1 + 1 + 1, none⟩ = some (.string (C j).s)
theorem Cells.below {w w' : World} {aa : Option Addr} {n : Nat} {C : Nat → Cel} (h : Cells w aa n C) (hb : Below w.heap.size w w') : Cells w' aa n C := by
  refine ⟨fun hn => ?_⟩
  obtain ⟨b, off, e, hc⟩ := h.spot hn
  refine ⟨b, off, e, fun j hj => ?_⟩
  obtain ⟨c0, c1, c2, c3⟩ := hc j hj
  exact ⟨(hb.cell (cell_lt c0)).trans c0, (hb.cell (cell_lt c1)).trans c1, (hb.cell (cell_lt c2)).trans c2, (hb.cell (cell_lt c3)).trans c3⟩

def zeroV : Array Value := #[.int .u8 0, .int .i64 0, .float .f64 0, .string ⟨#[]⟩]

theorem run_make_vals (n : Nat) (hn : n ≤ 65536) (w : World) :
    (Instr.makeSlice 27 (.int .i64 n) (.int .i64 n)).run Ybaf.prog w = .ok (.slice (some ⟨w.heap.size, 0, none⟩) n n) (w.alloc (.cells (madeCells zeroV (n * 4)) 30)) := by
  obtain ⟨i, hi, h1, h2, h3⟩ := info_parts Ybaf.info30
  have := run_make (P := Ybaf.prog) w 27 30 i _ Ybaf.underlying27 hi h1 .i64 .i64 n n (by omega) (Int.le_refl _) (by rw [h3]; omega) (by omega)
  rw [this, h2]
  rfl

theorem madeV_at (n i : Nat) (hi : i < n * 4) : (madeCells zeroV (n * 4))[i]? = some (zeroV[i % 4]!) := by
  unfold madeCells
  have h5 : zeroV.size = 4 := rfl
  simp [hi, h5]

theorem vrow_start (w : World) (n : Nat) : (w.alloc (.cells (madeCells zeroV (n * 4)) 30)).rowIs w.heap.size 30 (n * 4) (fun i => zeroV[i % 4]!) := by
  have := World.rowIs_alloc w (madeCells zeroV (n * 4)) 30 (fun i => zeroV[i % 4]!) (fun i hi => madeV_at n i (by rwa [size_madeCells] at hi))
  rwa [size_madeCells] at this

/-- The row, filled as far as k. -/
structure Filled (w : World) (R n : Nat) (C : Nat → Cel) (f : Nat → Value) (k : Nat) : Prop where
  row : w.rowIs R 30 (n * 4) f
  el : ∀ j, j < k → ∀ t, t < 4 → f (j * 4 + t) = (C j).vc t

theorem Filled.step {w w3 : World} {R n k : Nat} {C : Nat → Cel} {f : Nat → Value} (h : Filled w R n C f k) (hk : k < n)
    (hw3 : w3 = w.setCells R (k * 4) [.int .u8 (C k).vq, .int .i64 (C k).vi, .float .f64 (C k).vf, .string (C k).vs]) : ∃ f', Filled w3 R n C f' (k + 1) := by
  have hr := rowIs_setCells [.int .u8 (C k).vq, .int .i64 (C k).vi, .float .f64 (C k).vf, .string (C k).vs] (k * 4) w f h.row
  rw [← hw3] at hr
  refine ⟨_, hr, fun j hj t ht => ?_⟩
  by_cases e : j = k
  · subst e
    show (if j * 4 ≤ j * 4 + t ∧ j * 4 + t < j * 4 + 4 then _ else _) = _
    rw [if_pos (by omega), Nat.add_sub_cancel_left]
    match t, ht with
    | 0, _ => rfl
    | 1, _ => rfl
    | 2, _ => rfl
    | 3, _ => rfl
  · show (if k * 4 ≤ j * 4 + t ∧ j * 4 + t < k * 4 + 4 then _ else _) = _
    rw [if_neg (by omega), h.el j (by omega) t ht]

theorem Filled.vals {w : World} {R n : Nat} {C : Nat → Cel} {f : Nat → Value} (h : Filled w R n C f n) : Vals w R n C :=
  ⟨fun j hj => (h.row.cell (by omega)).trans (congrArg some (h.el j hj 0 (by omega))), fun j hj => (h.row.cell (by omega)).trans (congrArg some (h.el j hj 1 (by omega))),
   fun j hj => (h.row.cell (by omega)).trans (congrArg some (h.el j hj 2 (by omega))), fun j hj => (h.row.cell (by omega)).trans (congrArg some (h.el j hj 3 (by omega)))⟩

theorem chain4 (w : World) (b o : Nat) (v0 v1 v2 v3 : Value) : ((((w.setCell ⟨b, o, none⟩ v0).setCell ⟨b, o + 1, none⟩ v1).setCell ⟨b, o + 2, none⟩ v2).setCell ⟨b, o + 3, none⟩ v3) = w.setCells b o [v0, v1, v2, v3] := by
  simp only [World.setCells, Nat.add_assoc, Nat.reduceAdd]

theorem kept_setCells {b : Nat} : ∀ (vs : List Value) (o : Nat) (a w : World), Kept (fun k => k = b) a w → Kept (fun k => k = b) a (w.setCells b o vs)
  | [], _, _, _, h => h
  | v :: r, o, a, w, h => kept_setCells r (o + 1) a _ (h.setCell (p := ⟨b, o, none⟩) rfl v)

theorem Ybaf.info3 : (Ybaf.prog.info? 3).map (fun i => (i.zero, i.size, i.bytes)) = some (some (.int .i64 0), 1, 8) := by kernel_rfl

/-- The columns, as far as k. -/
def colsTo (ks : Nat → Nat) : Nat → List Value
  | 0 => []
  | k + 1 => colsTo ks k ++ [.int .i64 (ks k)]
theorem colsTo_len (ks : Nat → Nat) : ∀ k, (colsTo ks k).length = k
  | 0 => rfl
  | k + 1 => by simp [colsTo, colsTo_len ks k]
theorem colsTo_at (ks : Nat → Nat) : ∀ k j, j < k → (colsTo ks k)[j]? = some (.int .i64 (ks j))
  | k + 1, j, h => by
    have hl := colsTo_len ks k
    by_cases e : j = k
    · subst e
      simp [colsTo, hl]
    · have := colsTo_at ks k j (by omega)
      simp only [colsTo]
      rw [List.getElem?_append_left (by omega)]
      exact this
/-- A slice of numbers that the call owns. -/
structure OI (w : World) (B : Nat) (v : Value) (ks : Nat → Nat) (k : Nat) : Prop where
  own : w.ownsRow B 3 1 v k (colsTo ks k)
  bs : B ≤ w.heap.size
theorem OI.ge {w : World} {B : Nat} {v : Value} {ks : Nat → Nat} {m : Nat} (h : OI w B v ks m) {k : Nat} (hk : v.ownBlock = some k) : B ≤ k ∧ k < w.heap.size := by
  rcases h.own.2 with ⟨h0, _⟩ | ⟨g, cap, cur, h0, hB, hg, _⟩
  · rw [h0] at hk; simp [Value.ownBlock] at hk
  · rw [h0] at hk
    simp [Value.ownBlock] at hk
    subst hk
    refine ⟨hB, ?_⟩
    rcases Nat.lt_or_ge g w.heap.size with h1 | h1
    · exact h1
    · rw [Array.getElem?_eq_none h1] at hg; cases hg
theorem OI.cols {w : World} {B : Nat} {v : Value} {ks : Nat → Nat} {m : Nat} (h : OI w B v ks m) : ∃ ao c, v = .slice ao m c ∧ Cols w ao m ks := by
  rcases h.own.2 with ⟨rfl, rfl⟩ | ⟨g, cap, cur, rfl, hB, hg, hn, hc, hs, ht⟩
  · exact ⟨none, 0, rfl, ⟨fun h => absurd h (Nat.lt_irrefl _)⟩⟩
  · refine ⟨some ⟨g, 0, none⟩, cap, rfl, ⟨fun _ => ⟨g, rfl, fun j hj => ?_⟩⟩⟩
    have h2 := colsTo_at ks m j hj
    rw [← ht, List.getElem?_take] at h2
    simp [hj] at h2
    simp [World.cell?, hg, h2]
end Go.Proofs.YbulkdngeFmt
