/-
  Seat b5710a: the members' array, filled an element a round: the world's facts, no walk.
-/
import Derived.Test.YbulkdnfqWrites
import Derived.Lib.LazyBuf
namespace Go.Proofs.Ybulkdnfq
open Go.RowKit
set_option linter.unusedVariables false

def zeroM : Array Value := #[.string ByteArray.empty, .slice none 0 0, .bool false, .nilFunc, .nilFunc, .nilFunc, .nilFunc, .nilFunc, .nilFunc]
theorem Yba.info41 : (Yba.prog.info? 41).map (fun i => (i.zero, i.size, i.bytes)) = some (some (.agg zeroM), 9, 96) := by kernel_rfl

theorem run_make_mem (n : Nat) (hn : n ≤ 1048576) (w : World) :
    (Instr.makeSlice 30 (.int .i64 n) (.int .i64 n)).run Yba.prog w = .ok (.slice (some ⟨w.heap.size, 0, none⟩) n n) (w.alloc (.cells (madeCells zeroM (n * 9)) 41)) := by
  obtain ⟨i, hi, h1, h2, h3⟩ := info_parts Yba.info41
  have := run_make (P := Yba.prog) w 30 41 i _ Yba.underlying30 hi h1 .i64 .i64 n n (by omega) (Int.le_refl _) (by rw [h3]; omega) (by omega)
  rw [this, h2]
  rfl

theorem madeM_at (n i : Nat) (hi : i < n * 9) : (madeCells zeroM (n * 9))[i]? = some (zeroM[i % 9]!) := by
  unfold madeCells
  have h5 : zeroM.size = 9 := rfl
  simp [hi, h5]

theorem row_start (w : World) (n : Nat) : (w.alloc (.cells (madeCells zeroM (n * 9)) 41)).rowIs w.heap.size 41 (n * 9) (fun i => zeroM[i % 9]!) := by
  have := World.rowIs_alloc w (madeCells zeroM (n * 9)) 41 (fun i => zeroM[i % 9]!) (fun i hi => madeM_at n i (by rwa [size_madeCells] at hi))
  rwa [size_madeCells] at this

/-- zzs5710cmk, the new blocks by a letter. -/
theorem mk_at (w : World) (RB : Nat) (k : Nat) (z : Bool) :
    Calls Yba.prog 4 #[.pointer (some ⟨RB, 0, none⟩), .int .i64 k, .bool z] w fun e w' => ∃ F, e = .returned (.func (.func 6) #[] #[.pointer (some ⟨F, 0, none⟩), .pointer (some ⟨F + 1, 0, none⟩), .pointer (some ⟨F + 1 + 1, 0, none⟩)]) ∧
      w.heap.size ≤ F ∧ w'.cell? ⟨F, 0, none⟩ = some (.pointer (some ⟨RB, 0, none⟩)) ∧ w'.cell? ⟨F + 1, 0, none⟩ = some (.int .i64 (k : Nat)) ∧ w'.cell? ⟨F + 1 + 1, 0, none⟩ = some (.bool z) ∧ Below w.heap.size w w' := by
  refine (mk_any w RB k z).mono ?_
  rintro e w' ⟨rfl, rfl⟩
  have h1 := (Below.refl w.heap.size w).alloc (Nat.le_refl _) (Obj.cells #[.pointer (some ⟨RB, 0, none⟩)] 26)
  have h2 := h1.alloc h1.size (Obj.cells #[.int .i64 (k : Int)] 3)
  refine ⟨w.heap.size, rfl, Nat.le_refl _, ?_, ?_, ?_, h2.alloc h2.size _⟩
  all_goals (unfold mkW; simp [go_sem])

theorem kept_setCells {b : Nat} : ∀ (vs : List Value) (o : Nat) (a w : World), Kept (fun k => k = b) a w → Kept (fun k => k = b) a (w.setCells b o vs)
  | [], _, _, _, h => h
  | v :: r, o, a, w, h => kept_setCells r (o + 1) a _ (h.setCell (p := ⟨b, o, none⟩) rfl v)

def Cfg.grow (c : Cfg) (k F : Nat) : Cfg := { c with F := fun i => if i = k then F else c.F i }

/-- One element laid. -/
theorem Mems.step {c : Cfg} {w w3 : World} {MB RB n k F : Nat} {f : Nat → Value} (h : Mems c w MB RB n f k) (hk : k < n)
    (f0 : w.cell? ⟨F, 0, none⟩ = some (.pointer (some ⟨RB, 0, none⟩))) (f1 : w.cell? ⟨F + 1, 0, none⟩ = some (.int .i64 (k : Nat))) (f2 : w.cell? ⟨F + 1 + 1, 0, none⟩ = some (.bool (c.Z k))) (hF : RB < F) (hFM : MB < F) (hcM : ∀ j, j < k → MB < c.F j)
    (hw3 : w3 = w.setCells MB (k * 9) [.string (c.N k), .slice none 0 0, .bool (c.O k), .nilFunc, .nilFunc, .nilFunc, .nilFunc, .func (.func 6) #[] #[.pointer (some ⟨F, 0, none⟩), .pointer (some ⟨F + 1, 0, none⟩), .pointer (some ⟨F + 1 + 1, 0, none⟩)], .nilFunc]) :
    ∃ f', Mems (c.grow k F) w3 MB RB n f' (k + 1) := by
  have hr := rowIs_setCells [.string (c.N k), .slice none 0 0, .bool (c.O k), .nilFunc, .nilFunc, .nilFunc, .nilFunc, .func (.func 6) #[] #[.pointer (some ⟨F, 0, none⟩), .pointer (some ⟨F + 1, 0, none⟩), .pointer (some ⟨F + 1 + 1, 0, none⟩)], .nilFunc] (k * 9) w f h.row
  rw [← hw3] at hr
  have far : ∀ b, b < w.heap.size → b ≠ MB → w3.heap[b]? = w.heap[b]? := fun b hb hne => by rw [hw3]; exact (kept_setCells _ _ w w (Kept.refl _ _)).block b hb hne
  have old : ∀ {b v}, b ≠ MB → w.cell? ⟨b, 0, none⟩ = some v → w3.cell? ⟨b, 0, none⟩ = some v := fun hb hv => (World.cell?_of_block (far _ (cell_lt hv) hb)).trans hv
  have gF : ∀ j, j < k → (c.grow k F).F j = c.F j := fun j hj => by show (if j = k then F else c.F j) = _; rw [if_neg (by omega)]
  have gN : (c.grow k F).F k = F := by show (if k = k then F else c.F k) = _; rw [if_pos rfl]
  refine ⟨_, hr, fun j hj t ht => ?_, fun j hj => ?_, fun j hj => ?_, fun j hj => ?_, fun j hj => ?_⟩
  · by_cases e : j = k
    · subst e
      show (if j * 9 ≤ j * 9 + t ∧ j * 9 + t < j * 9 + 9 then _ else _) = _
      rw [if_pos (by omega), Nat.add_sub_cancel_left]
      match t, ht with
      | 0, _ => rfl
      | 1, _ => rfl
      | 2, _ => rfl
      | 3, _ => rfl
      | 4, _ => rfl
      | 5, _ => rfl
      | 6, _ => rfl
      | 7, _ => show _ = elem _ _ 7; unfold elem; rw [gN]; rfl
      | 8, _ => rfl
    · show (if k * 9 ≤ j * 9 + t ∧ j * 9 + t < k * 9 + 9 then _ else _) = _
      rw [if_neg (by omega), h.el j (by omega) t ht]
      unfold elem
      rw [gF j (by omega)]
      rfl
  · by_cases e : j = k
    · subst e; rw [gN]; exact old (by omega) f0
    · rw [gF j (by omega)]; exact old (by have := hcM j (by omega); omega) (h.b0 j (by omega))
  · by_cases e : j = k
    · subst e; rw [gN]; exact old (by omega) f1
    · rw [gF j (by omega)]; exact old (by have := hcM j (by omega); omega) (h.b1 j (by omega))
  · by_cases e : j = k
    · subst e; rw [gN]; exact old (by omega) f2
    · rw [gF j (by omega)]; exact old (by have := hcM j (by omega); omega) (h.b2 j (by omega))
  · by_cases e : j = k
    · subst e; rw [gN]; exact hF
    · rw [gF j (by omega)]; exact h.lo j (by omega)

theorem far9 (w : World) (b : Nat) (o0 o1 o2 o3 o4 o5 o6 o7 o8 : Nat) (v0 v1 v2 v3 v4 v5 v6 v7 v8 : Value) {x : Nat} (hx : x ≠ b) : (((((((((w.setCell ⟨b, o0, none⟩ v0).setCell ⟨b, o1, none⟩ v1).setCell ⟨b, o2, none⟩ v2).setCell ⟨b, o3, none⟩ v3).setCell ⟨b, o4, none⟩ v4).setCell ⟨b, o5, none⟩ v5).setCell ⟨b, o6, none⟩ v6).setCell ⟨b, o7, none⟩ v7).setCell ⟨b, o8, none⟩ v8).heap[x]? = w.heap[x]? := by
  rw [Deep.blk_setCell_other _ _ _ _ hx, Deep.blk_setCell_other _ _ _ _ hx, Deep.blk_setCell_other _ _ _ _ hx, Deep.blk_setCell_other _ _ _ _ hx, Deep.blk_setCell_other _ _ _ _ hx, Deep.blk_setCell_other _ _ _ _ hx, Deep.blk_setCell_other _ _ _ _ hx, Deep.blk_setCell_other _ _ _ _ hx, Deep.blk_setCell_other _ _ _ _ hx]

theorem s9 (w : World) (b : Nat) (o0 o1 o2 o3 o4 o5 o6 o7 o8 : Nat) (v0 v1 v2 v3 v4 v5 v6 v7 v8 : Value) {x p q r : Nat} {a1 a2 a3 : Value} (hx : x ≠ b) (h : w.cell? ⟨x, p, none⟩ = some a1 ∧ w.cell? ⟨x, q, none⟩ = some a2 ∧ w.cell? ⟨x, r, none⟩ = some a3) :
    (((((((((w.setCell ⟨b, o0, none⟩ v0).setCell ⟨b, o1, none⟩ v1).setCell ⟨b, o2, none⟩ v2).setCell ⟨b, o3, none⟩ v3).setCell ⟨b, o4, none⟩ v4).setCell ⟨b, o5, none⟩ v5).setCell ⟨b, o6, none⟩ v6).setCell ⟨b, o7, none⟩ v7).setCell ⟨b, o8, none⟩ v8).cell? ⟨x, p, none⟩ = some a1 ∧ (((((((((w.setCell ⟨b, o0, none⟩ v0).setCell ⟨b, o1, none⟩ v1).setCell ⟨b, o2, none⟩ v2).setCell ⟨b, o3, none⟩ v3).setCell ⟨b, o4, none⟩ v4).setCell ⟨b, o5, none⟩ v5).setCell ⟨b, o6, none⟩ v6).setCell ⟨b, o7, none⟩ v7).setCell ⟨b, o8, none⟩ v8).cell? ⟨x, q, none⟩ = some a2 ∧ (((((((((w.setCell ⟨b, o0, none⟩ v0).setCell ⟨b, o1, none⟩ v1).setCell ⟨b, o2, none⟩ v2).setCell ⟨b, o3, none⟩ v3).setCell ⟨b, o4, none⟩ v4).setCell ⟨b, o5, none⟩ v5).setCell ⟨b, o6, none⟩ v6).setCell ⟨b, o7, none⟩ v7).setCell ⟨b, o8, none⟩ v8).cell? ⟨x, r, none⟩ = some a3 := by
  have far := far9 w b o0 o1 o2 o3 o4 o5 o6 o7 o8 v0 v1 v2 v3 v4 v5 v6 v7 v8 hx
  generalize (((((((((w.setCell ⟨b, o0, none⟩ v0).setCell ⟨b, o1, none⟩ v1).setCell ⟨b, o2, none⟩ v2).setCell ⟨b, o3, none⟩ v3).setCell ⟨b, o4, none⟩ v4).setCell ⟨b, o5, none⟩ v5).setCell ⟨b, o6, none⟩ v6).setCell ⟨b, o7, none⟩ v7).setCell ⟨b, o8, none⟩ v8) = w' at far ⊢
  exact ⟨(World.cell?_of_block far).trans h.1, (World.cell?_of_block far).trans h.2.1, (World.cell?_of_block far).trans h.2.2⟩

theorem chain9 (w : World) (b o : Nat) (v0 v1 v2 v3 v4 v5 v6 v7 v8 : Value) : (((((((((w.setCell ⟨b, o, none⟩ v0).setCell ⟨b, o + 1, none⟩ v1).setCell ⟨b, o + 2, none⟩ v2).setCell ⟨b, o + 3, none⟩ v3).setCell ⟨b, o + 4, none⟩ v4).setCell ⟨b, o + 5, none⟩ v5).setCell ⟨b, o + 6, none⟩ v6).setCell ⟨b, o + 7, none⟩ v7).setCell ⟨b, o + 8, none⟩ v8) = w.setCells b o [v0, v1, v2, v3, v4, v5, v6, v7, v8] := by
  simp only [World.setCells, Nat.add_assoc, Nat.reduceAdd]

/-- The members that came in. -/
structure Ms (w : World) (aa : Option Addr) (n : Nat) (c : Cfg) : Prop where
  spot : 0 < n → ∃ b off, aa = some ⟨b, off, none⟩ ∧ ∀ j, j < n → w.cell? ⟨b, off + j * 3, none⟩ = some (.string (c.N j)) ∧ w.cell? ⟨b, off + j * 3 + 1, none⟩ = some (.bool (c.O j)) ∧ w.cell? ⟨b, off + j * 3 + 2, none⟩ = some (.bool (c.Z j))

end Go.Proofs.Ybulkdnfq
