/-
  Seat b5708a: an array of stored sessions, filled an element a round: the world's facts, no walk.
-/
import Derived.Test.YbulkdneoSess
import Derived.Deep.Slices
namespace Go.Proofs.Ybulkdneo
open Go.RowKit

/-- The zero value of a stored session, cell by cell. -/
def zeroSS : Array Value := #[.slice none 0 0, .slice none 0 0, .slice none 0 0, .slice none 0 0, .slice none 0 0, .bool false, .bool false]
def madeSS (n : Nat) : Array Value := madeCells zeroSS (n * 7)
theorem Yba.info34 : (Yba.prog.info? 34).map (fun i => (i.zero, i.size, i.bytes)) = some (some (.agg zeroSS), 7, 128) := by kernel_rfl

theorem run_make_ss (n : Nat) (hn : n ≤ 1048576) (w : World) :
    (Instr.makeSlice 30 (.int .i64 n) (.int .i64 n)).run Yba.prog w = .ok (.slice (some ⟨w.heap.size, 0, none⟩) n n) (w.alloc (.cells (madeSS n) 34)) := by
  obtain ⟨i, hi, h1, h2, h3⟩ := info_parts Yba.info34
  have := run_make (P := Yba.prog) w 30 34 i _ Yba.underlying30 hi h1 .i64 .i64 n n (by omega) (Int.le_refl _) (by rw [h3]; omega) (by omega)
  rw [this, h2]
  rfl

theorem madeSS_at (n i : Nat) (hi : i < n * 7) : (madeSS n)[i]? = some (zeroSS[i % 7]!) := by
  unfold madeSS madeCells
  have h5 : zeroSS.size = 7 := rfl
  simp [hi, h5]
theorem size_madeSS (n : Nat) : (madeSS n).size = n * 7 := size_madeCells _ _

/-- What element j of the array at block B holds: five byte slices with the bytes 'Zs j', in memory behind block B; two bools. -/
def Elem (B : Nat) (w : World) (f : Nat → Value) (Zs : Nat → Nat → List Int) (X Y : Nat → Bool) (j : Nat) : Prop :=
  ∃ t : Nat → Sl, (∀ i, i < 5 → f (j * 7 + i) = .slice (t i).a (t i).n (t i).c ∧ SR w (t i) ∧ (t i).z = Zs j i ∧ ∀ x : Addr, (t i).a = some x → B < x.block) ∧ f (j * 7 + 5) = .bool (X j) ∧ f (j * 7 + 6) = .bool (Y j)

structure FillA (w5 wr : World) (al : Option Addr) (n k : Nat) (Zs : Nat → Nat → List Int) (X Y : Nat → Bool) : Prop where
  bel : Below w5.heap.size w5 wr
  row : 0 < n → al = some ⟨w5.heap.size, 0, none⟩ ∧ ∃ f, wr.rowIs w5.heap.size 34 (n * 7) f ∧ ∀ j, j < k → Elem w5.heap.size wr f Zs X Y j

theorem FillA.start (w5 : World) (n : Nat) (Zs : Nat → Nat → List Int) (X Y : Nat → Bool) : FillA w5 (w5.alloc (.cells (madeSS n) 34)) (some ⟨w5.heap.size, 0, none⟩) n 0 Zs X Y := by
  refine ⟨(Below.refl _ _).alloc (Nat.le_refl _) _, fun _ => ⟨rfl, fun i => zeroSS[i % 7]!, ?_, fun j hj => absurd hj (Nat.not_lt_zero _)⟩⟩
  have := World.rowIs_alloc w5 (madeSS n) 34 (fun i => zeroSS[i % 7]!) (fun i hi => madeSS_at n i (by rwa [size_madeSS] at hi))
  rwa [size_madeSS] at this

theorem FillA.bare (w5 : World) (Zs : Nat → Nat → List Int) (X Y : Nat → Bool) : FillA w5 w5 none 0 0 Zs X Y :=
  ⟨Below.refl _ _, fun h => absurd h (Nat.lt_irrefl _)⟩

/-- The cells that the next round writes, in a later world that has kept all of wr. -/
theorem FillA.next {w5 wr w1 : World} {al : Option Addr} {n k : Nat} {Zs : Nat → Nat → List Int} {X Y : Nat → Bool} (h : FillA w5 wr al n k Zs X Y) (hk : k < n) (hb : Below wr.heap.size wr w1) :
    w5.heap.size < wr.heap.size ∧ ∀ i, i < 7 → (∃ v, w1.cell? ⟨w5.heap.size, k * 7 + i, none⟩ = some v) ∧ w1.frozen? ⟨w5.heap.size, k * 7 + i, none⟩ = false := by
  obtain ⟨_, f, hr, _⟩ := h.row (by omega)
  have hr1 := hr.of_block (hb.block _ hr.lt)
  exact ⟨hr.lt, fun i hi => ⟨⟨_, hr1.cell (by omega)⟩, hr1.frozen _⟩⟩

theorem Elem.keep {B : Nat} {w w' : World} {f f' : Nat → Value} {Zs : Nat → Nat → List Int} {X Y : Nat → Bool} {j : Nat} (h : Elem B w f Zs X Y j) (hf : ∀ i, i < 7 → f' (j * 7 + i) = f (j * 7 + i)) (hs : ∀ s : Sl, SR w s → (∀ x : Addr, s.a = some x → B < x.block) → SR w' s) : Elem B w' f' Zs X Y j := by
  obtain ⟨t, h1, h2, h3⟩ := h
  refine ⟨t, fun i hi => ?_, by rw [hf 5 (by omega)]; exact h2, by rw [hf 6 (by omega)]; exact h3⟩
  obtain ⟨a, b, c, d⟩ := h1 i hi
  exact ⟨by rw [hf i (by omega)]; exact a, hs _ b d, c, d⟩

/-- The world behind the store of element k. -/
def put7 (w : World) (B o : Nat) (v0 v1 v2 v3 v4 v5 v6 : Value) : World :=
  ((((((w.setCell ⟨B, o, none⟩ v0).setCell ⟨B, o + 1, none⟩ v1).setCell ⟨B, o + 2, none⟩ v2).setCell ⟨B, o + 3, none⟩ v3).setCell ⟨B, o + 4, none⟩ v4).setCell ⟨B, o + 5, none⟩ v5).setCell ⟨B, o + 6, none⟩ v6

theorem put7_other {w : World} {B o : Nat} {v0 v1 v2 v3 v4 v5 v6 : Value} (b : Nat) (hb : b ≠ B) : (put7 w B o v0 v1 v2 v3 v4 v5 v6).heap[b]? = w.heap[b]? := by
  unfold put7
  rw [Deep.blk_setCell_other _ _ _ _ hb, Deep.blk_setCell_other _ _ _ _ hb, Deep.blk_setCell_other _ _ _ _ hb, Deep.blk_setCell_other _ _ _ _ hb, Deep.blk_setCell_other _ _ _ _ hb, Deep.blk_setCell_other _ _ _ _ hb, Deep.blk_setCell_other _ _ _ _ hb]

theorem put7_size {w : World} {B o : Nat} {v0 v1 v2 v3 v4 v5 v6 : Value} : (put7 w B o v0 v1 v2 v3 v4 v5 v6).heap.size = w.heap.size := by
  simp [put7, World.setCell]

theorem SR.put7 {w : World} {B o : Nat} {v0 v1 v2 v3 v4 v5 v6 : Value} {s : Sl} (h : SR w s) (hB : ∀ x : Addr, s.a = some x → B < x.block) : SR (put7 w B o v0 v1 v2 v3 v4 v5 v6) s := by
  refine ⟨⟨h.1.len, h.1.cap, h.1.nil, h.1.wf, fun hn => ?_⟩, h.2⟩
  obtain ⟨b, off, e, hc⟩ := h.1.spot hn
  have hb : B < b := hB _ e
  refine ⟨b, off, e, fun i hi => ?_⟩
  rw [← hc i hi]
  exact World.cell?_of_block (put7_other b (by omega))

theorem Below.put7 {B B' o : Nat} {w0 w : World} {v0 v1 v2 v3 v4 v5 v6 : Value} (h : Below B w0 w) (hB : B ≤ B') : Below B w0 (put7 w B' o v0 v1 v2 v3 v4 v5 v6) := by
  unfold Ybulkdneo.put7
  exact ((((((h.setCell hB _).setCell hB _).setCell hB _).setCell hB _).setCell hB _).setCell hB _).setCell hB _

theorem FillA.step {w5 wr w1 : World} {al : Option Addr} {n k : Nat} {Zs : Nat → Nat → List Int} {X Y : Nat → Bool} (h : FillA w5 wr al n k Zs X Y) (hk : k < n) (hb : Below wr.heap.size wr w1) {t0 t1 t2 t3 t4 : Sl}
    (r : SR w1 t0 ∧ SR w1 t1 ∧ SR w1 t2 ∧ SR w1 t3 ∧ SR w1 t4) (z : t0.z = Zs k 0 ∧ t1.z = Zs k 1 ∧ t2.z = Zs k 2 ∧ t3.z = Zs k 3 ∧ t4.z = Zs k 4)
    (fr : (∀ x : Addr, t0.a = some x → w5.heap.size < x.block) ∧ (∀ x : Addr, t1.a = some x → w5.heap.size < x.block) ∧ (∀ x : Addr, t2.a = some x → w5.heap.size < x.block) ∧ (∀ x : Addr, t3.a = some x → w5.heap.size < x.block) ∧ (∀ x : Addr, t4.a = some x → w5.heap.size < x.block)) :
    FillA w5 (put7 w1 w5.heap.size (k * 7) (.slice t0.a t0.n t0.c) (.slice t1.a t1.n t1.c) (.slice t2.a t2.n t2.c) (.slice t3.a t3.n t3.c) (.slice t4.a t4.n t4.c) (.bool (X k)) (.bool (Y k))) al n (k + 1) Zs X Y := by
  obtain ⟨hal, f, hr, hd⟩ := h.row (by omega)
  have hr1 := hr.of_block (hb.block _ hr.lt)
  have hb5 : Below w5.heap.size w5 w1 := h.bel.trans (hb.mono h.bel.size)
  refine ⟨Below.put7 hb5 (Nat.le_refl _), fun _ => ⟨hal, _, ((((((hr1.set _ _).set _ _).set _ _).set _ _).set _ _).set _ _).set _ _, fun j hj => ?_⟩⟩
  obtain ⟨r0, r1, r2, r3, r4⟩ := r
  obtain ⟨z0, z1, z2, z3, z4⟩ := z
  obtain ⟨f0, f1, f2, f3, f4⟩ := fr
  rcases Nat.lt_succ_iff_lt_or_eq.1 hj with h1 | rfl
  · refine (hd j h1).keep (fun i hi => ?_) (fun s hs hB => (hs.below hb).put7 hB)
    show (if j * 7 + i = k * 7 + 6 then _ else if j * 7 + i = k * 7 + 5 then _ else if j * 7 + i = k * 7 + 4 then _ else if j * 7 + i = k * 7 + 3 then _ else if j * 7 + i = k * 7 + 2 then _ else if j * 7 + i = k * 7 + 1 then _ else if j * 7 + i = k * 7 then _ else _) = _
    rw [if_neg (by omega), if_neg (by omega), if_neg (by omega), if_neg (by omega), if_neg (by omega), if_neg (by omega), if_neg (by omega)]
  · refine ⟨fun i => match i with | 0 => t0 | 1 => t1 | 2 => t2 | 3 => t3 | _ => t4, fun i hi => ?_, ?_, ?_⟩
    · match i, hi with
      | 0, _ => exact ⟨by show (if j * 7 + 0 = j * 7 + 6 then _ else if j * 7 + 0 = j * 7 + 5 then _ else if j * 7 + 0 = j * 7 + 4 then _ else if j * 7 + 0 = j * 7 + 3 then _ else if j * 7 + 0 = j * 7 + 2 then _ else if j * 7 + 0 = j * 7 + 1 then _ else if j * 7 + 0 = j * 7 then _ else _) = _; rw [if_neg (by omega), if_neg (by omega), if_neg (by omega), if_neg (by omega), if_neg (by omega), if_neg (by omega), if_pos (by omega)]; rfl, r0.put7 f0, z0, f0⟩
      | 1, _ => exact ⟨by show (if j * 7 + 1 = j * 7 + 6 then _ else if j * 7 + 1 = j * 7 + 5 then _ else if j * 7 + 1 = j * 7 + 4 then _ else if j * 7 + 1 = j * 7 + 3 then _ else if j * 7 + 1 = j * 7 + 2 then _ else if j * 7 + 1 = j * 7 + 1 then _ else if j * 7 + 1 = j * 7 then _ else _) = _; rw [if_neg (by omega), if_neg (by omega), if_neg (by omega), if_neg (by omega), if_neg (by omega), if_pos (by omega)]; rfl, r1.put7 f1, z1, f1⟩
      | 2, _ => exact ⟨by show (if j * 7 + 2 = j * 7 + 6 then _ else if j * 7 + 2 = j * 7 + 5 then _ else if j * 7 + 2 = j * 7 + 4 then _ else if j * 7 + 2 = j * 7 + 3 then _ else if j * 7 + 2 = j * 7 + 2 then _ else if j * 7 + 2 = j * 7 + 1 then _ else if j * 7 + 2 = j * 7 then _ else _) = _; rw [if_neg (by omega), if_neg (by omega), if_neg (by omega), if_neg (by omega), if_pos (by omega)]; rfl, r2.put7 f2, z2, f2⟩
      | 3, _ => exact ⟨by show (if j * 7 + 3 = j * 7 + 6 then _ else if j * 7 + 3 = j * 7 + 5 then _ else if j * 7 + 3 = j * 7 + 4 then _ else if j * 7 + 3 = j * 7 + 3 then _ else if j * 7 + 3 = j * 7 + 2 then _ else if j * 7 + 3 = j * 7 + 1 then _ else if j * 7 + 3 = j * 7 then _ else _) = _; rw [if_neg (by omega), if_neg (by omega), if_neg (by omega), if_pos (by omega)]; rfl, r3.put7 f3, z3, f3⟩
      | 4, _ => exact ⟨by show (if j * 7 + 4 = j * 7 + 6 then _ else if j * 7 + 4 = j * 7 + 5 then _ else if j * 7 + 4 = j * 7 + 4 then _ else if j * 7 + 4 = j * 7 + 3 then _ else if j * 7 + 4 = j * 7 + 2 then _ else if j * 7 + 4 = j * 7 + 1 then _ else if j * 7 + 4 = j * 7 then _ else _) = _; rw [if_neg (by omega), if_neg (by omega), if_pos (by omega)]; rfl, r4.put7 f4, z4, f4⟩
    · show (if j * 7 + 5 = j * 7 + 6 then _ else if j * 7 + 5 = j * 7 + 5 then _ else if j * 7 + 5 = j * 7 + 4 then _ else if j * 7 + 5 = j * 7 + 3 then _ else if j * 7 + 5 = j * 7 + 2 then _ else if j * 7 + 5 = j * 7 + 1 then _ else if j * 7 + 5 = j * 7 then _ else _) = _; rw [if_neg (by omega), if_pos (by omega)]
    · show (if j * 7 + 6 = j * 7 + 6 then _ else if j * 7 + 6 = j * 7 + 5 then _ else if j * 7 + 6 = j * 7 + 4 then _ else if j * 7 + 6 = j * 7 + 3 then _ else if j * 7 + 6 = j * 7 + 2 then _ else if j * 7 + 6 = j * 7 + 1 then _ else if j * 7 + 6 = j * 7 then _ else _) = _; rw [if_pos (by omega)]

/-- All filled. -/
theorem FillA.sess {w5 wr : World} {al : Option Addr} {n : Nat} {Zs : Nat → Nat → List Int} {X Y : Nat → Bool} (h : FillA w5 wr al n n Zs X Y) : ∃ T : Nat → Nat → Sl, Sess wr al n T X Y ∧ ∀ j, j < n → ∀ i, i < 5 → (T j i).z = Zs j i := by
  rcases Nat.eq_zero_or_pos n with rfl | hn
  · exact ⟨fun _ _ => ⟨none, 0, 0, []⟩, ⟨fun h => absurd h (Nat.lt_irrefl _), fun j hj => absurd hj (Nat.not_lt_zero _)⟩, fun j hj => absurd hj (Nat.not_lt_zero _)⟩
  obtain ⟨hal, f, hr, hd⟩ := h.row hn
  have hd' : ∀ j, j < n → ∃ t : Nat → Sl, (∀ i, i < 5 → f (j * 7 + i) = .slice (t i).a (t i).n (t i).c ∧ SR wr (t i) ∧ (t i).z = Zs j i ∧ ∀ x : Addr, (t i).a = some x → w5.heap.size < x.block) ∧ f (j * 7 + 5) = .bool (X j) ∧ f (j * 7 + 6) = .bool (Y j) := hd
  have hne : Nonempty (Nat → Sl) := ⟨fun _ => ⟨none, 0, 0, []⟩⟩
  have hc : ∃ T : Nat → Nat → Sl, ∀ j, j < n → (∀ i, i < 5 → f (j * 7 + i) = .slice (T j i).a (T j i).n (T j i).c ∧ SR wr (T j i) ∧ (T j i).z = Zs j i ∧ ∀ x : Addr, (T j i).a = some x → w5.heap.size < x.block) ∧ f (j * 7 + 5) = .bool (X j) ∧ f (j * 7 + 6) = .bool (Y j) := by
    refine ⟨fun j => if hj : j < n then Classical.choose (hd' j hj) else fun _ => ⟨none, 0, 0, []⟩, fun j hj => ?_⟩
    simp only [dif_pos hj]
    exact Classical.choose_spec (hd' j hj)
  obtain ⟨T, hT⟩ := hc
  refine ⟨T, ⟨fun _ => ⟨w5.heap.size, hal, fun j hj => ?_⟩, fun j hj i hi => ((hT j hj).1 i hi).2.1⟩, fun j hj i hi => ((hT j hj).1 i hi).2.2.1⟩
  obtain ⟨h1, h2, h3⟩ := hT j hj
  refine ⟨?_, ?_, ?_, ?_, ?_, ?_, ?_⟩
  · rw [hr.cell (by omega)]; exact congrArg some (h1 0 (by omega)).1
  · rw [hr.cell (by omega)]; exact congrArg some (h1 1 (by omega)).1
  · rw [hr.cell (by omega)]; exact congrArg some (h1 2 (by omega)).1
  · rw [hr.cell (by omega)]; exact congrArg some (h1 3 (by omega)).1
  · rw [hr.cell (by omega)]; exact congrArg some (h1 4 (by omega)).1
  · rw [hr.cell (by omega)]; exact congrArg some h2
  · rw [hr.cell (by omega)]; exact congrArg some h3

end Go.Proofs.Ybulkdneo
