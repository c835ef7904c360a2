/-
  Seat b5711aF: Eval (46), covers (15).
-/
import Derived.Test.YbulkdngeFmtClone
namespace Go.Proofs.YbulkdngeFmt
open Go.RowKit
set_option linter.unusedVariables false

/-- The stand-in predicate, before its one call. -/
structure Pred (w : World) (N : Nat) (k i : Int) (fb : Nat) (s : ByteArray) (er : Value) : Prop where
  c0 : w.cell? ⟨N, 0, none⟩ = some (.int .u8 k)
  c1 : w.cell? ⟨N, 1, none⟩ = some (.int .i64 i)
  c2 : w.cell? ⟨N, 2, none⟩ = some (.float .f64 fb)
  c3 : w.cell? ⟨N, 3, none⟩ = some (.string s)
  c4 : w.cell? ⟨N, 4, none⟩ = some er
  c5 : w.cell? ⟨N, 5, none⟩ = some (.int .i64 0)
  c6 : w.cell? ⟨N, 6, none⟩ = some (.int .i64 0)
  f5 : w.frozen? ⟨N, 5, none⟩ = false
  f6 : w.frozen? ⟨N, 6, none⟩ = false

set_option maxHeartbeats 1000000 in
theorem eval_any (w : World) (N : Nat) (k i : Int) (fb : Nat) (s : ByteArray) (er : Value) (h : Pred w N k i fb s er) (a : Option Addr) (n c : Nat) :
    Calls Ybaf.prog 46 #[.pointer (some ⟨N, 0, none⟩), .slice a n c] w fun e w' => e = .returned (.tuple #[.agg #[.int .u8 k, .int .i64 i, .float .f64 fb, .string s], er]) ∧ w'.cell? ⟨N, 5, none⟩ = some (.int .i64 1) ∧ w'.cell? ⟨N, 6, none⟩ = some (.int .i64 n) ∧ Kept (fun b => b = N) w w' := by
  obtain ⟨c0, c1, c2, c3, c4, c5, c6, f5, f6⟩ := h
  have hN := cell_lt c0
  have hN0 : N < w.heap.size := hN
  have hN1 : ¬ N = w.heap.size := by omega
  have hN2 : ¬ w.heap.size = N := by omega
  clear hN
  have hst := store_float .f64 fb
  go_enter Ybaf.func46, Ybaf.ntmps46
  go_upto_region 3 with fail
  go_region
  go_wp2
  refine bodyPost_ret (v := .tuple #[.agg #[.int .u8 k, .int .i64 i, .float .f64 fb, .string s], er]) (by simp [results, Ybaf.results46, go_sem]) rfl ⟨rfl, ?_, ?_, ?_⟩
  · simp [go_sem, hN0, c5]
  · simp [go_sem, hN0, c6]
  · have k1 := ((Kept.refl (fun b => b = N) w).setCell (p := ⟨N, 5, none⟩) rfl (.int .i64 1)).setCell (p := ⟨N, 6, none⟩) rfl (.int .i64 n)
    exact k1.trans (Kept.of_below (((Below.refl _ _).alloc (Nat.le_refl _) _).drew))

/-- The index, as covers and entryKey read it. -/
structure Ix (w : World) (X : Nat) (nm : ByteArray) (cols pred : Value) : Prop where
  name : w.cell? ⟨X, 0, none⟩ = some (.string nm)
  cols : w.cell? ⟨X, 3, none⟩ = some cols
  pred : w.cell? ⟨X, 6, none⟩ = some pred
theorem Ix.kept {T : Nat → Prop} {w w' : World} {X : Nat} {nm : ByteArray} {cols pred : Value} (h : Ix w X nm cols pred) (hk : Kept T w w') (ht : ¬ T X) : Ix w' X nm cols pred :=
  ⟨hk.cell h.name ht, hk.cell h.cols ht, hk.cell h.pred ht⟩

set_option maxHeartbeats 1000000 in
theorem covers_none (w : World) (X : Nat) (nm : ByteArray) (cols : Value) (h : Ix w X nm cols .nilIface) (a : Option Addr) (n c : Nat) :
    Calls Ybaf.prog 15 #[.pointer (some ⟨X, 0, none⟩), .slice a n c] w fun e w' => e = .returned (.tuple #[.bool true, .nilIface]) ∧ w' = w := by
  obtain ⟨x0, x3, x6⟩ := h
  go_enter Ybaf.func15, Ybaf.ntmps15
  go_wp2
  exact bodyPost_ret (v := .tuple #[.bool true, .nilIface]) (by simp [results, Ybaf.results15]) rfl ⟨rfl, rfl⟩

theorem andThen_known {α β : Type} {P : Program} {s : Sem α} {w w' : World} {r : α} {k : α → World → Result β} (h : Sem.run P s w = .ok r w') : (Sem.run P s w).andThen k = k r w' := by rw [h]; rfl

set_option maxHeartbeats 2000000 in
set_option maxRecDepth 100000 in
theorem covers_null (w : World) (X N : Nat) (nm : ByteArray) (cols : Value) (i : Int) (fb : Nat) (s : ByteArray) (h : Ix w X nm cols (.iface 48 (.pointer (some ⟨N, 0, none⟩)))) (hp : Pred w N 0 i fb s .nilIface) (a : Option Addr) (n c : Nat) :
    Calls Ybaf.prog 15 #[.pointer (some ⟨X, 0, none⟩), .slice a n c] w fun e w' => e = .returned (.tuple #[.bool false, .nilIface]) ∧ w'.cell? ⟨N, 5, none⟩ = some (.int .i64 1) ∧ w'.cell? ⟨N, 6, none⟩ = some (.int .i64 n) ∧ Kept (fun b => b = N) w w' := by
  obtain ⟨x0, x3, x6⟩ := h
  have hst := store_float .f64 fb
  go_enter Ybaf.func15, Ybaf.ntmps15
  go_wp2_with fail
  rw [andThen_known (r := ((46 : FuncId), Value.pointer (some ⟨N, 0, none⟩))) (w' := w) (by kernel_rfl)]
  go_wp2_with fail
  refine (eval_any w N 0 i fb s .nilIface hp a n c).mono ?_
  rintro e w4 ⟨rfl, n5, n6, hK⟩
  clear x0 x3 x6
  go_wp2_with fail
  refine (isNull_any _ 0 i fb s).mono ?_
  rintro e w5 ⟨rfl, rfl⟩
  go_wp2
  refine bodyPost_ret (v := .tuple #[.bool false, .nilIface]) (by simp [results, Ybaf.results15]) rfl ⟨rfl, ?_⟩
  have bb : Below w4.heap.size w4 ((w4.alloc (Obj.cells #[.int .u8 0, .int .i64 i, .float .f64 fb, .string s] 30)).alloc (Obj.cells #[.int .u8 0, .int .i64 i, .float .f64 fb, .string s] 30)) := by
    repeat (first | exact Below.refl _ _ | refine Below.alloc ?_ (by simp <;> omega) _)
  exact ⟨(bb.cell (cell_lt n5)).trans n5, (bb.cell (cell_lt n6)).trans n6, hK.trans (Kept.of_below bb)⟩

set_option maxHeartbeats 2000000 in
set_option maxRecDepth 100000 in
theorem covers_int (w : World) (X N : Nat) (nm : ByteArray) (cols : Value) (i : Int) (fb : Nat) (s : ByteArray) (h : Ix w X nm cols (.iface 48 (.pointer (some ⟨N, 0, none⟩)))) (hp : Pred w N 1 i fb s .nilIface) (a : Option Addr) (n c : Nat) :
    Calls Ybaf.prog 15 #[.pointer (some ⟨X, 0, none⟩), .slice a n c] w fun e w' => e = .returned (.tuple #[.bool (!(i == 0)), .nilIface]) ∧ w'.cell? ⟨N, 5, none⟩ = some (.int .i64 1) ∧ w'.cell? ⟨N, 6, none⟩ = some (.int .i64 n) ∧ Kept (fun b => b = N) w w' := by
  obtain ⟨x0, x3, x6⟩ := h
  have hst := store_float .f64 fb
  go_enter Ybaf.func15, Ybaf.ntmps15
  go_wp2_with fail
  rw [andThen_known (r := ((46 : FuncId), Value.pointer (some ⟨N, 0, none⟩))) (w' := w) (by kernel_rfl)]
  go_wp2_with fail
  refine (eval_any w N 1 i fb s .nilIface hp a n c).mono ?_
  rintro e w4 ⟨rfl, n5, n6, hK⟩
  clear x0 x3 x6
  go_wp2_with fail
  refine (isNull_any _ 1 i fb s).mono ?_
  rintro e w5 ⟨rfl, rfl⟩
  go_wp2_with fail
  refine (asBool_any _ 1 i fb s).mono ?_
  rintro e w6 ⟨rfl, rfl⟩
  go_wp2
  refine bodyPost_ret (v := .tuple #[.bool (!(i == 0)), .nilIface]) (by simp [results, Ybaf.results15]) rfl ⟨rfl, ?_⟩
  have bb : Below w4.heap.size w4 (((w4.alloc (Obj.cells #[.int .u8 1, .int .i64 i, .float .f64 fb, .string s] 30)).alloc (Obj.cells #[.int .u8 1, .int .i64 i, .float .f64 fb, .string s] 30)).alloc (Obj.cells #[.int .u8 1, .int .i64 i, .float .f64 fb, .string s] 30)) := by
    repeat (first | exact Below.refl _ _ | refine Below.alloc ?_ (by simp <;> omega) _)
  exact ⟨(bb.cell (cell_lt n5)).trans n5, (bb.cell (cell_lt n6)).trans n6, hK.trans (Kept.of_below bb)⟩

end Go.Proofs.YbulkdngeFmt
