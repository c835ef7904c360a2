/-
  Seat b5709a: the law's function (3) where nothing is queued; where the list is too long.
-/
import Derived.Test.YbulkdnfcStage1
import Derived.Deep.DeepCutAuto
namespace Go.Proofs.Ybulkdnfc
open Go.RowKit
set_option linter.unusedVariables false

set_option maxHeartbeats 8000000 in
set_option maxRecDepth 100000 in
theorem law_long (w : World) (aa ar ad : Option Addr) (n ca nr cr nd cd : Nat) (hn : 4096 < n) :
    Calls Yba.prog 3 #[.slice aa n ca, .slice ar nr cr, .slice ad nd cd] w fun e w' => e = .returned (.bool true) ∧ Below w.heap.size w w' := by
  have hn4 : (4096 : Int) < (n : Int) := by omega
  go_enter Yba.func3, Yba.ntmps3
  go_wp2
  go_ret
  exact ⟨rfl, (Below.refl _ _).alloc (Nat.le_refl _) _⟩

set_option maxHeartbeats 8000000 in
set_option maxRecDepth 100000 in
theorem law_nil (w : World) (aa ar ad : Option Addr) (ca nr cr nd cd : Nat) :
    Calls Yba.prog 3 #[.slice aa 0 ca, .slice ar nr cr, .slice ad nd cd] w fun e w' => e = .returned (.bool true) ∧ Below w.heap.size w w' := by
  have hmk1 : ∀ w : World, (Instr.makeSlice 25 (.int .i64 0) (.int .i64 0)).run Yba.prog w = .ok (.slice (some ⟨w.heap.size, 0, none⟩) 0 0) (w.alloc (.cells (madeCells #[.pointer none] 0) 31)) := run_make_items 0 (by omega)
  have hmk2 : ∀ w : World, (Instr.makeSlice 36 (.int .i64 0) (.int .i64 0)).run Yba.prog w = .ok (.slice (some ⟨w.heap.size, 0, none⟩) 0 0) (w.alloc (.cells (madeCells #[.int .i64 0] 0) 3)) := run_make_ints 0 (by omega)
  have hmk3 : ∀ w : World, (Instr.makeSlice 24 (.int .i64 0) (.int .i64 0)).run Yba.prog w = .ok (.slice (some ⟨w.heap.size, 0, none⟩) 0 0) (w.alloc (.cells (madeCells #[.bool false] 0) 4)) := run_make_bools 0 (by omega)
  go_enter Yba.func3, Yba.ntmps3
  go_wp2
  have hb1 : Below w.heap.size w (w.alloc (Obj.cells #[.slice ad nd cd] 24)) := (Below.refl _ _).alloc (Nat.le_refl _) _
  have hb2 := hb1.alloc hb1.size (Obj.cells (madeCells #[.pointer none] 0) 31)
  have hb3 := hb2.alloc hb2.size (Obj.cells #[.slice none 0 0] 29)
  obtain ⟨w1, hw1⟩ : ∃ w1, w1 = ((w.alloc (Obj.cells #[.slice ad nd cd] 24)).alloc (Obj.cells (madeCells #[.pointer none] 0) 31)).alloc (Obj.cells #[.slice none 0 0] 29) := ⟨_, rfl⟩
  have hq : w1.cell? ⟨w.heap.size + 1 + 1, 0, none⟩ = some (.slice none 0 0) := by rw [hw1]; simp [go_sem]
  have hqf : w1.frozen? ⟨w.heap.size + 1 + 1, 0, none⟩ = false := by rw [hw1]; simp [go_sem]
  rw [← hw1] at hb3 ⊢
  clear hw1 hb1 hb2
  generalize hQ : w.heap.size + 1 + 1 = Q at hq hqf ⊢
  have HQ : Hid (w.heap.size ≤ Q) := by show _ ≤ _; omega
  generalize w.heap.size + 1 = IA
  generalize hDB : w.heap.size = DB
  clear hQ hDB
  go_loopw [10] (fun v wr => v = .int .i64 0 ∧ w1 = wr) (fun _ _ => 0)
  case atStart => exact ⟨rfl, rfl⟩
  case round =>
    obtain ⟨rfl, rfl⟩ := hrel
    go_wp2
    have hb4 := hb3.alloc hb3.size (Obj.cells (madeCells #[.int .i64 0] 0) 3)
    have hbl := (Below.refl w1.heap.size w1).alloc (Nat.le_refl _) (Obj.cells (madeCells #[.int .i64 0] 0) 3)
    obtain ⟨w2, hw2⟩ : ∃ w2, w2 = w1.alloc (Obj.cells (madeCells #[.int .i64 0] 0) 3) := ⟨_, rfl⟩
    rw [← hw2] at hb4 hbl ⊢
    have hq2 := (hbl.cell (cell_lt hq)).trans hq
    have hqf2 := (hbl.frozen (cell_lt hq)).trans hqf
    clear hw2 hb3 hbl hq hqf
    generalize w1.heap.size = PB
    go_loopw [14] (fun v wr => v = .int .i64 0 ∧ w2 = wr) (fun _ _ => 0)
    case atStart => exact ⟨rfl, rfl⟩
    case round =>
      obtain ⟨rfl, rfl⟩ := hrel
      go_wp2
      have hb5 := hb4.alloc hb4.size (Obj.cells (madeCells #[.bool false] 0) 4)
      have hbl := (Below.refl w2.heap.size w2).alloc (Nat.le_refl _) (Obj.cells (madeCells #[.bool false] 0) 4)
      obtain ⟨w3, hw3⟩ : ∃ w3, w3 = w2.alloc (Obj.cells (madeCells #[.bool false] 0) 4) := ⟨_, rfl⟩
      rw [← hw3] at hb5 hbl ⊢
      have hq3 := (hbl.cell (cell_lt hq2)).trans hq2
      have hqf3 := (hbl.frozen (cell_lt hq2)).trans hqf2
      clear hw3 hb4 hbl hq2 hqf2
      generalize w2.heap.size = KB
      go_loopw [16, 17] (fun u v wr => u = .int .i64 0 ∧ v = .int .i64 0 ∧ w3 = wr) (fun _ _ _ => 0)
      case atStart => exact ⟨rfl, rfl, rfl⟩
      case round =>
        obtain ⟨rfl, rfl, rfl⟩ := hrel
        go_wp2_with fail
        have hb6 := hb5.alloc hb5.size (Obj.cells #[.slice none 0 0] 36)
        have hbl := (Below.refl w3.heap.size w3).alloc (Nat.le_refl _) (Obj.cells #[.slice none 0 0] 36)
        obtain ⟨w4, hw4⟩ : ∃ w4, w4 = w3.alloc (Obj.cells #[.slice none 0 0] 36) := ⟨_, rfl⟩
        have hl4 : w4.cell? ⟨w3.heap.size, 0, none⟩ = some (.slice none 0 0) := by rw [hw4]; simp [go_sem]
        rw [← hw4] at hb6 hbl ⊢
        have hq4 := (hbl.cell (cell_lt hq3)).trans hq3
        have hqf4 := (hbl.frozen (cell_lt hq3)).trans hqf3
        have hne : w3.heap.size ≠ Q := by have := cell_lt hq3; simp at this; omega
        clear hw4 hb5 hbl hq3 hqf3
        generalize w3.heap.size = LB at hl4 hne ⊢
        refine (remove_nil w4 Q LB DB hq4 hqf4).mono ?_
        rintro e w5 ⟨rfl, hq5, hK5⟩
        have hl5 := hK5.cell hl4 hne
        have hb7 : Below w.heap.size w w5 := hb6.trans (hK5.below hb6.size (fun k hk => by rw [hk]; exact HQ.out))
        clear hb6 hq4 hqf4 hl4 hK5
        go_wp2
        go_loopw [19] (fun v wr => v = .int .i64 0 ∧ w5 = wr) (fun _ _ => 0)
        case atStart => exact ⟨rfl, rfl⟩
        case round =>
          obtain ⟨rfl, rfl⟩ := hrel
          go_wp2
          have hb8 := hb7.alloc hb7.size (Obj.cells (madeCells #[.bool false] 0) 4)
          have hbl := (Below.refl w5.heap.size w5).alloc (Nat.le_refl _) (Obj.cells (madeCells #[.bool false] 0) 4)
          obtain ⟨w6, hw6⟩ : ∃ w6, w6 = w5.alloc (Obj.cells (madeCells #[.bool false] 0) 4) := ⟨_, rfl⟩
          rw [← hw6] at hb8 hbl ⊢
          have hq6 := (hbl.cell (cell_lt hq5)).trans hq5
          clear hw6 hb7 hbl hq5 hl5
          generalize w5.heap.size = SB
          go_loopw [21] (fun v wr => v = .int .i64 0 ∧ w6 = wr) (fun _ _ => 0)
          case atStart => exact ⟨rfl, rfl⟩
          case round =>
            obtain ⟨rfl, rfl⟩ := hrel
            go_wp2
            go_loopw [25] (fun v wr => v = .int .i64 0 ∧ w6 = wr) (fun _ _ => 0)
            case atStart => exact ⟨rfl, rfl⟩
            case round =>
              obtain ⟨rfl, rfl⟩ := hrel
              go_wp2
              go_ret
              exact ⟨rfl, hb8⟩
end Go.Proofs.Ybulkdnfc
