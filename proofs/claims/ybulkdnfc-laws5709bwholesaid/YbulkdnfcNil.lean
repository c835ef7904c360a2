/-
  Seat b5709a: the same over an empty queue.
-/
import Derived.Test.YbulkdnfcRemove
namespace Go.Proofs.Ybulkdnfc
open Go.RowKit
set_option linter.unusedVariables false

set_option maxHeartbeats 1000000 in
theorem index_nil (w : World) (F : Value) : Calls Yba.prog 22 #[.slice none 0 0, F] w fun e w' => e = .returned (.int .i64 (-1)) ∧ w' = w := by
  go_enter Yba.func22, Yba.ntmps22
  go_wp2
  go_loopw [8] (fun v wr => v = .int .i64 0 ∧ wr = w) (fun _ _ => 0)
  case atStart => exact ⟨rfl, rfl⟩
  case round =>
    obtain ⟨rfl, rfl⟩ := hrel
    go_wp2
    go_ret
    exact ⟨rfl, rfl⟩

set_option maxHeartbeats 1000000 in
theorem delete_nil (w : World) (F : Value) : Calls Yba.prog 12 #[.slice none 0 0, F] w fun e w' => e = .returned (.slice none 0 0) ∧ w' = w := by
  go_enter Yba.func12, Yba.ntmps12
  go_wp2_with fail
  refine (index_nil w F).mono ?_
  rintro e w1 ⟨rfl, rfl⟩
  go_wp2
  go_ret
  exact ⟨rfl, rfl⟩

set_option maxHeartbeats 1000000 in
theorem reorder_nil (w : World) (Q : Nat) (hq : w.cell? ⟨Q, 0, none⟩ = some (.slice none 0 0)) : Calls Yba.prog 14 #[.pointer (some ⟨Q, 0, none⟩)] w fun e w' => e = .returned (.tuple #[]) ∧ w' = w := by
  go_enter Yba.func14, Yba.ntmps14
  go_wp2
  go_loopw [10] (fun v wr => v = .int .i64 0 ∧ wr = w) (fun _ _ => 0)
  case atStart => exact ⟨rfl, rfl⟩
  case round =>
    obtain ⟨rfl, rfl⟩ := hrel
    go_wp2
    go_loopw [4] (fun v wr' => v = .int .i64 (-1) ∧ wr' = wr) (fun _ _ => 0)
    case atStart => exact ⟨rfl, rfl⟩
    case round =>
      obtain ⟨rfl, rfl⟩ := hrel
      go_wp2
      go_end0
      exact ⟨rfl, rfl⟩

set_option maxHeartbeats 1000000 in
theorem remove_nil (w : World) (Q LB DB : Nat) (hq : w.cell? ⟨Q, 0, none⟩ = some (.slice none 0 0)) (hqf : w.frozen? ⟨Q, 0, none⟩ = false) :
    Calls Yba.prog 6 #[.pointer (some ⟨Q, 0, none⟩), .func (.func 7) #[] #[.pointer (some ⟨LB, 0, none⟩), .pointer (some ⟨DB, 0, none⟩)]] w fun e w' => e = .returned (.tuple #[]) ∧ w'.cell? ⟨Q, 0, none⟩ = some (.slice none 0 0) ∧ Kept (fun k => k = Q) w w' := by
  have hb1 := (Below.refl w.heap.size w).alloc (Nat.le_refl _) (Obj.cells #[.func (.func 7) #[] #[.pointer (some ⟨LB, 0, none⟩), .pointer (some ⟨DB, 0, none⟩)]] 44)
  have hq1 := (hb1.cell (cell_lt hq)).trans hq
  have hqf1 := (hb1.frozen (cell_lt hq)).trans hqf
  go_enter Yba.func6, Yba.ntmps6
  go_wp2_with fail
  obtain ⟨w1, hw1⟩ : ∃ w1, w1 = w.alloc (Obj.cells #[.func (.func 7) #[] #[.pointer (some ⟨LB, 0, none⟩), .pointer (some ⟨DB, 0, none⟩)]] 44) := ⟨_, rfl⟩
  rw [← hw1] at hb1 hq1 hqf1 ⊢
  clear hw1
  refine (delete_nil w1 _).mono ?_
  rintro e w2 ⟨rfl, rfl⟩
  have q3 : (w2.setCell ⟨Q, 0, none⟩ (.slice none 0 0)).cell? ⟨Q, 0, none⟩ = some (.slice none 0 0) := by simp [go_sem, hq1]
  go_wp2_with fail
  refine (reorder_nil _ Q q3).mono ?_
  rintro e w4 ⟨rfl, rfl⟩
  go_wp2
  go_end0
  exact ⟨rfl, q3, Kept.setCell (T := fun k => k = Q) (Kept.of_below hb1) (p := ⟨Q, 0, none⟩) rfl _⟩
end Go.Proofs.Ybulkdnfc
