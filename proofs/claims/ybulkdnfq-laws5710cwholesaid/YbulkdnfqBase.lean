/-
  Seat b5710a: what a step leaves; zzs5710cmk (4) and the function that it makes (6).
-/
import Derived.Test.YbulkdnfqRows
import Derived.WalkKit
import Derived.WalkSpells
import Derived.WalkLawsBesides
import Derived.Deep.QuietTactic
import Derived.BigQuiet
import Derived.Deep.OwnRows
import Derived.Deep.Cut
import Derived.Deep.RegionHeld3
import Derived.Deep.RegionHeldLaw
import Derived.Deep.RegionLaw
import Derived.Deep.AppendLies
import Derived.Deep.Slices
import Derived.Deep.DeepCutAuto
import Derived.Lib.Builder
namespace Go.Proofs.Ybulkdnfq
open Go.RowKit
set_option linter.unusedVariables false

/-- All blocks that were there are as they were, but for those of T. -/
structure Kept (T : Nat → Prop) (w w' : World) : Prop where
  os : w'.os = w.os
  tape : w'.tape = w.tape
  output : w'.output = w.output
  size : w.heap.size ≤ w'.heap.size
  block : ∀ k, k < w.heap.size → ¬ T k → w'.heap[k]? = w.heap[k]?

theorem Kept.refl (T : Nat → Prop) (w : World) : Kept T w w := ⟨rfl, rfl, rfl, Nat.le_refl _, fun _ _ _ => rfl⟩
theorem Kept.trans {T : Nat → Prop} {a b c : World} (h : Kept T a b) (k : Kept T b c) : Kept T a c :=
  ⟨k.os.trans h.os, k.tape.trans h.tape, k.output.trans h.output, Nat.le_trans h.size k.size, fun i hi ht => (k.block i (Nat.lt_of_lt_of_le hi h.size) ht).trans (h.block i hi ht)⟩
theorem Kept.of_below {T : Nat → Prop} {w w' : World} (h : Below w.heap.size w w') : Kept T w w' := ⟨h.os, h.tape, h.output, h.size, fun k hk _ => h.block k hk⟩
theorem Kept.setCell {T : Nat → Prop} {a w : World} (h : Kept T a w) {p : Addr} (hp : T p.block) (v : Value) : Kept T a (w.setCell p v) :=
  h.trans ⟨rfl, rfl, rfl, by simp [World.setCell], fun k _ ht => Below.heap_setCell _ _ _ _ (fun e => ht (e ▸ hp))⟩
theorem Kept.mono {T T' : Nat → Prop} {a w : World} (h : Kept T a w) (ht : ∀ k, k < a.heap.size → T k → T' k) : Kept T' a w := ⟨h.os, h.tape, h.output, h.size, fun k hk hn => h.block k hk (fun x => hn (ht k hk x))⟩
theorem Kept.below {T : Nat → Prop} {B : Nat} {a w : World} (h : Kept T a w) (hB : B ≤ a.heap.size) (ht : ∀ k, T k → B ≤ k) : Below B a w :=
  ⟨h.os, h.tape, h.output, h.size, fun k hk => h.block k (by omega) (fun x => by have := ht k x; omega)⟩
theorem cell_lt {w : World} {p : Addr} {v : Value} (h : w.cell? p = some v) : p.block < w.heap.size := by
  rcases Nat.lt_or_ge p.block w.heap.size with h1 | h1
  · exact h1
  · exfalso
    have : w.heap[p.block]? = none := by simp [h1]
    simp [World.cell?, this] at h
theorem Kept.cell {T : Nat → Prop} {w w' : World} (h : Kept T w w') {p : Addr} {v : Value} (hv : w.cell? p = some v) (ht : ¬ T p.block) : w'.cell? p = some v :=
  (World.cell?_of_block (w := w) (h.block _ (cell_lt hv) ht)).trans hv
theorem heap_drew' (w : World) : w.drew.heap = w.heap := rfl
theorem below_grown {w w' : World} (h : Below w.heap.size w w') : w.grownBy w' none := ⟨h.os, h.tape, h.output, h.size, fun k hk _ => h.block k hk⟩
theorem grown_kept {T : Nat → Prop} {w w' : World} {row : Option Nat} (h : w.grownBy w' row) (hr : ∀ k, row = some k → T k) : Kept T w w' :=
  ⟨h.os, h.tape, h.output, h.size, fun k hk ht => h.block k hk (fun e => ht (hr k e.symm))⟩

theorem Yba.info3 : (Yba.prog.info? 3).map (fun i => (i.zero, i.size, i.bytes)) = some (some (.int .i64 0), 1, 8) := by kernel_rfl

/-- The world behind zzs5710cmk. -/
def mkW (w : World) (RB : Nat) (k : Int) (z : Bool) : World :=
  ((w.alloc (Obj.cells #[.pointer (some ⟨RB, 0, none⟩)] 26)).alloc (Obj.cells #[.int .i64 k] 3)).alloc (Obj.cells #[.bool z] 4)

set_option maxHeartbeats 400000 in
theorem mk_any (w : World) (RB : Nat) (k : Int) (z : Bool) :
    Calls Yba.prog 4 #[.pointer (some ⟨RB, 0, none⟩), .int .i64 k, .bool z] w fun e w' => e = .returned (.func (.func 6) #[] #[.pointer (some ⟨w.heap.size, 0, none⟩), .pointer (some ⟨w.heap.size + 1, 0, none⟩), .pointer (some ⟨w.heap.size + 1 + 1, 0, none⟩)]) ∧ w' = mkW w RB k z := by
  go_enter Yba.func4, Yba.ntmps4
  go_wp2
  go_ret
  exact ⟨rfl, rfl⟩

set_option maxHeartbeats 1000000 in
theorem cl_any (w : World) (XB RB F0 F1 F2 j : Nat) (z : Bool) (f0 : w.cell? ⟨F0, 0, none⟩ = some (.pointer (some ⟨RB, 0, none⟩))) (f1 : w.cell? ⟨F1, 0, none⟩ = some (.int .i64 j)) (f2 : w.cell? ⟨F2, 0, none⟩ = some (.bool z))
    (r0 : w.cell? ⟨RB, 0, none⟩ = some (.slice none 0 0)) (rf : w.frozen? ⟨RB, 0, none⟩ = false) (r2 : w.cell? ⟨RB, 2, none⟩ = some (.pointer (some ⟨XB, 0, none⟩))) (n0 : F0 ≠ RB) (n1 : F1 ≠ RB) (n2 : F2 ≠ RB) :
    Calls Yba.prog 6 #[.pointer (some ⟨XB, 0, none⟩), .pointer (some ⟨F0, 0, none⟩), .pointer (some ⟨F1, 0, none⟩), .pointer (some ⟨F2, 0, none⟩)] w fun e w' => e = .returned (.bool z) ∧ ∃ g cap, w'.cell? ⟨RB, 0, none⟩ = some (.slice (some ⟨g, 0, none⟩) 1 cap) ∧ w'.cell? ⟨g, 0, none⟩ = some (.int .i64 j) ∧ (∀ v, w.cell? ⟨RB, 1, none⟩ = some v → w'.cell? ⟨RB, 1, none⟩ = some v) ∧ Kept (fun k => k = RB) w w' := by
  obtain ⟨ti, ht0, ht1, ht2, ht3⟩ := info_parts Yba.info3
  have al : ∀ o p v', w.cell? p = some v' → (w.alloc o).cell? p = some v' := fun o p v' h => (((Below.refl w.heap.size w).alloc (Nat.le_refl _) o).cell (cell_lt h)).trans h
  have f0' := fun o => al o _ _ f0
  have f1' := fun o => al o _ _ f1
  have r0' := fun o => al o _ _ r0
  have OW : Hid (w.ownsRow 0 3 1 (.slice none 0 0) 0 []) := ⟨rfl, .inl ⟨rfl, rfl⟩⟩
  have NB : Hid (∀ i u, ([.int .i64 (j : Int)] : List Value)[i]? = some u → ((w.alloc (Obj.cells #[.int .i64 (j : Int)] 3)).drew).cell? ((⟨w.heap.size, 0, none⟩ : Addr).add i) = some u) := by
    refine World.news_of_block (cs := #[.int .i64 (j : Int)]) (t := 3) (fr := (0, 0)) ?_
    rw [heap_drew']
    exact Deep.blk_alloc_new w _
  have ONE : Hid (∀ u ∈ ([.int .i64 (j : Int)] : List Value), u.oneCell' = true) := by
    intro u hu
    simp only [List.mem_cons, List.not_mem_nil, or_false] at hu
    rcases hu with rfl
    rfl
  have LATER : Hid (∀ w3, ((w.alloc (Obj.cells #[.int .i64 (j : Int)] 3)).drew).grownBy w3 none → Below w.heap.size w w3) := by
    intro w3 hg
    have h1 : Below w.heap.size w ((w.alloc (Obj.cells #[.int .i64 (j : Int)] 3)).drew) := ((Below.refl _ _).alloc (Nat.le_refl _) _).drew
    exact ⟨hg.os.trans h1.os, hg.tape.trans h1.tape, hg.output.trans h1.output, Nat.le_trans h1.size hg.size, fun k hk => (hg.block k (by have := h1.size; omega) (by simp)).trans (h1.block k hk)⟩
  go_enter Yba.func6, Yba.ntmps6
  go_upto_region 1 with fail
  go_cut [5] (fun v wx => v = .bool false ∧ ∃ g cap, wx.cell? ⟨RB, 0, none⟩ = some (.slice (some ⟨g, 0, none⟩) 1 cap) ∧ wx.cell? ⟨g, 0, none⟩ = some (.int .i64 (j : Int)) ∧ Hid (∀ v, w.cell? ⟨RB, 1, none⟩ = some v → wx.cell? ⟨RB, 1, none⟩ = some v) ∧ wx.cell? ⟨RB, 2, none⟩ = some (.pointer (some ⟨XB, 0, none⟩)) ∧ Kept (fun k => k = RB) w wx)
  case first =>
   go_region_law (refine step_append_lies _ rfl (.tmp 10) (.tmp 12) 27 rfl 0 3 ti _ 1 8 Yba.underlying27 ht0 ht1 ht2 ht3 rfl (by decide) (.slice none 0 0) 0 [] (by simp [Act.eval]) (OW.out.alloc (Obj.cells #[.int .i64 (j : Int)] 3)).drew ⟨w.heap.size, 0, none⟩ 1 1 [.int .i64 (j : Int)] (by simp [Act.eval]) rfl NB.out ONE.out (by omega) (by decide) (by decide) (Nat.zero_le _) _ rfl ?_; intro g cap w3 hown hgrow hat hlt; have hb3 := LATER.out w3 hgrow; have qq := (hb3.cell (cell_lt r0)).trans r0; have qqf := (hb3.frozen (cell_lt r0)).trans rf; have qf0 := (hb3.cell (cell_lt f0)).trans f0)
   all_goals
    have hK : Kept (fun k => k = RB) w (w3.setCell ⟨RB, 0, none⟩ (.slice (some ⟨g, 0, none⟩) 1 cap)) := Kept.setCell (T := fun k => k = RB) (Kept.of_below hb3) (p := ⟨RB, 0, none⟩) rfl _
    have hRB : RB < w.heap.size := cell_lt r0
    have hgR : g ≠ RB := by
      rcases hat with h | h
      · simp [Value.ownBlock] at h
      · rw [heap_drew', Deep.nblk_alloc] at h; omega
    have hg0 : w3.cell? ⟨g, 0, none⟩ = some (.int .i64 (j : Int)) := by
      rcases hown.2 with ⟨h, _⟩ | ⟨g', cap', cur, h, _, hh, _, _, _, htk⟩
      · simp at h
      · obtain ⟨rfl, rfl⟩ : g' = g ∧ cap' = cap := by simpa using h.symm
        have e1 : ([] ++ [Value.int .i64 (j : Int)] : List Value)[0]? = some (.int .i64 (j : Int)) := rfl
        rw [← htk, List.getElem?_take_of_lt (by omega)] at e1
        unfold World.cell?
        rw [hh]
        simpa using e1
    have k0 : (w3.setCell ⟨RB, 0, none⟩ (.slice (some ⟨g, 0, none⟩) 1 cap)).cell? ⟨RB, 0, none⟩ = some (.slice (some ⟨g, 0, none⟩) 1 cap) := by simp [go_sem, qq]
    have k1 : ∀ v, w.cell? ⟨RB, 1, none⟩ = some v → (w3.setCell ⟨RB, 0, none⟩ (.slice (some ⟨g, 0, none⟩) 1 cap)).cell? ⟨RB, 1, none⟩ = some v := fun v hv => by
      have := (hb3.cell (cell_lt hv)).trans hv
      simpa [go_sem] using this
    have k2 : (w3.setCell ⟨RB, 0, none⟩ (.slice (some ⟨g, 0, none⟩) 1 cap)).cell? ⟨RB, 2, none⟩ = some (.pointer (some ⟨XB, 0, none⟩)) := by
      have := (hb3.cell (cell_lt r2)).trans r2
      simpa [go_sem] using this
    have kg : (w3.setCell ⟨RB, 0, none⟩ (.slice (some ⟨g, 0, none⟩) 1 cap)).cell? ⟨g, 0, none⟩ = some (.int .i64 (j : Int)) := (World.cell?_of_block (Deep.blk_setCell_other _ _ _ _ hgR)).trans hg0
    obtain ⟨w4, hw4⟩ : ∃ w4, w4 = w3.setCell ⟨RB, 0, none⟩ (.slice (some ⟨g, 0, none⟩) 1 cap) := ⟨_, rfl⟩
    rw [← hw4] at hK k0 k1 k2 kg ⊢
    clear hw4 hown hgrow hat hlt qq qqf qf0 hb3 hg0 NB ONE LATER OW al f0' f1' r0' f0 f1 f2 r0 r2
    go_wp2
    go_meet
    case rel => exact ⟨rfl, g, cap, k0, kg, k1, k2, hK⟩
  case rest =>
    obtain ⟨rfl, g, cap, k0, kg, k1, k2, hK⟩ := hcut
    have q0 := hK.cell f0 n0
    have q2 := hK.cell f2 n2
    have hpn : (binOp .neq 25 (.pointer (some ⟨XB, 0, none⟩)) (.pointer (some ⟨XB, 0, none⟩))).run Yba.prog wc = .ok (.bool false) wc := Lib.run_neq_ptr_same wc _ Yba.underlying25 ht0
    clear f0' f1' r0' f0 f1 f2 r0 r2 NB ONE LATER OW al
    go_wp2
    go_ret
    exact ⟨rfl, g, cap, k0, kg, k1.out, hK⟩

end Go.Proofs.Ybulkdnfq
