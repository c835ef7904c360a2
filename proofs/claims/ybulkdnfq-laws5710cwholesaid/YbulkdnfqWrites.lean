/-
  Seat b5710a: Writes (5).
-/
import Derived.Test.YbulkdnfqBase
import Derived.Laws.EntriesVeiled
namespace Go.Proofs.Ybulkdnfq
open Go.RowKit
set_option linter.unusedVariables false

/-- What the members are: their names, whether they may be left out, what their stand-ins answer, where these lie. -/
structure Cfg where
  N : Nat → ByteArray
  O : Nat → Bool
  Z : Nat → Bool
  F : Nat → Nat

def fnAt (f : Nat) : Value := .func (.func 6) #[] #[.pointer (some ⟨f, 0, none⟩), .pointer (some ⟨f + 1, 0, none⟩), .pointer (some ⟨f + 1 + 1, 0, none⟩)]
def elem (c : Cfg) (j : Nat) : Nat → Value
  | 0 => .string (c.N j)
  | 1 => .slice none 0 0
  | 2 => .bool (c.O j)
  | 3 => .nilFunc
  | 4 => .nilFunc
  | 5 => .nilFunc
  | 6 => .nilFunc
  | 7 => .func (.func 6) #[] #[.pointer (some ⟨c.F j, 0, none⟩), .pointer (some ⟨c.F j + 1, 0, none⟩), .pointer (some ⟨c.F j + 1 + 1, 0, none⟩)]
  | _ => .nilFunc

/-- The first k members in memory. -/
structure Mems (c : Cfg) (w : World) (MB RB n : Nat) (f : Nat → Value) (k : Nat) : Prop where
  row : w.rowIs MB 41 (n * 9) f
  el : ∀ j, j < k → ∀ t, t < 9 → f (j * 9 + t) = elem c j t
  b0 : ∀ j, j < k → w.cell? ⟨c.F j, 0, none⟩ = some (.pointer (some ⟨RB, 0, none⟩))
  b1 : ∀ j, j < k → w.cell? ⟨c.F j + 1, 0, none⟩ = some (.int .i64 (j : Nat))
  b2 : ∀ j, j < k → w.cell? ⟨c.F j + 1 + 1, 0, none⟩ = some (.bool (c.Z j))
  lo : ∀ j, j < k → RB < c.F j

theorem Mems.below {c : Cfg} {w w' : World} {MB RB n k : Nat} {f : Nat → Value} (h : Mems c w MB RB n f k) (hb : Below w.heap.size w w') : Mems c w' MB RB n f k :=
  ⟨h.row.of_block (hb.block _ h.row.lt), h.el, fun j hj => (hb.cell (cell_lt (h.b0 j hj))).trans (h.b0 j hj), fun j hj => (hb.cell (cell_lt (h.b1 j hj))).trans (h.b1 j hj), fun j hj => (hb.cell (cell_lt (h.b2 j hj))).trans (h.b2 j hj), h.lo⟩

theorem Mems.cells {c : Cfg} {w : World} {MB RB n k : Nat} {f : Nat → Value} (h : Mems c w MB RB n f k) (hk : k ≤ n) (j : Nat) (hj : j < k) :
    w.cell? ⟨MB, j * 9, none⟩ = some (.string (c.N j)) ∧ w.cell? ⟨MB, j * 9 + 1, none⟩ = some (.slice none 0 0) ∧ w.cell? ⟨MB, j * 9 + 1 + 1, none⟩ = some (.bool (c.O j)) ∧ w.cell? ⟨MB, j * 9 + 1 + 1 + 1, none⟩ = some .nilFunc ∧ w.cell? ⟨MB, j * 9 + 1 + 1 + 1 + 1, none⟩ = some .nilFunc ∧ w.cell? ⟨MB, j * 9 + 1 + 1 + 1 + 1 + 1, none⟩ = some .nilFunc ∧ w.cell? ⟨MB, j * 9 + 1 + 1 + 1 + 1 + 1 + 1, none⟩ = some .nilFunc ∧ w.cell? ⟨MB, j * 9 + 1 + 1 + 1 + 1 + 1 + 1 + 1, none⟩ = some (.func (.func 6) #[] #[.pointer (some ⟨c.F j, 0, none⟩), .pointer (some ⟨c.F j + 1, 0, none⟩), .pointer (some ⟨c.F j + 1 + 1, 0, none⟩)]) ∧ w.cell? ⟨MB, j * 9 + 1 + 1 + 1 + 1 + 1 + 1 + 1 + 1, none⟩ = some .nilFunc := by
  have e : ∀ t, t < 9 → w.cell? ⟨MB, j * 9 + t, none⟩ = some (elem c j t) := fun t ht => by rw [h.row.cell (by omega), h.el j hj t ht]
  exact ⟨e 0 (by omega), e 1 (by omega), e 2 (by omega), e 3 (by omega), e 4 (by omega), e 5 (by omega), e 6 (by omega), e 7 (by omega), e 8 (by omega)⟩

/-- The record and v's own cell. -/
structure Rec (w : World) (RB XB : Nat) : Prop where
  r0 : w.cell? ⟨RB, 0, none⟩ = some (.slice none 0 0)
  rf : w.frozen? ⟨RB, 0, none⟩ = false
  r1 : w.cell? ⟨RB, 1, none⟩ = some (.bool false)
  r2 : w.cell? ⟨RB, 2, none⟩ = some (.pointer (some ⟨XB, 0, none⟩))

theorem Rec.below {w w' : World} {RB XB : Nat} (h : Rec w RB XB) (hb : Below w.heap.size w w') : Rec w' RB XB :=
  ⟨(hb.cell (cell_lt h.r0)).trans h.r0, (hb.frozen (cell_lt h.r0)).trans h.rf, (hb.cell (cell_lt h.r1)).trans h.r1, (hb.cell (cell_lt h.r2)).trans h.r2⟩

set_option maxHeartbeats 1000000 in
theorem writes_any (c : Cfg) (w : World) (MB RB XB n : Nat) (f : Nat → Value) (name : ByteArray) (hn : n ≤ 1048576) (h : Mems c w MB RB n f n) (hr : Rec w RB XB) :
    Calls Yba.prog 5 #[.agg #[.slice (some ⟨MB, 0, none⟩) n n, .slice none 0 0, .bool false, .bool false, .pointer none, .nilFunc], .pointer (some ⟨XB, 0, none⟩), .string name] w fun e w' =>
      (e = .returned (.bool false) ∧ (∀ j, j < n → (c.N j).toList ≠ name.toList) ∧ Below w.heap.size w w') ∨
      (∃ j, j < n ∧ (∀ i, i < j → (c.N i).toList ≠ name.toList) ∧ (c.N j).toList = name.toList ∧ ((c.O j = false ∧ e = .returned (.bool true) ∧ Below w.heap.size w w') ∨
        (c.O j = true ∧ e = .returned (.bool (!c.Z j)) ∧ Kept (fun k => k = RB) w w' ∧ ∃ g cap, w'.cell? ⟨RB, 0, none⟩ = some (.slice (some ⟨g, 0, none⟩) 1 cap) ∧ w'.cell? ⟨g, 0, none⟩ = some (.int .i64 (j : Nat)) ∧ w'.cell? ⟨RB, 1, none⟩ = some (.bool false)))) := by
  go_enter Yba.func5, Yba.ntmps5
  go_wp2
  have hb0 := (Below.refl w.heap.size w).alloc (Nat.le_refl _) (Obj.cells #[.slice (some ⟨MB, 0, none⟩) n n, .slice none 0 0, .bool false, .bool false, .pointer none, .nilFunc] 46)
  obtain ⟨w1, hw1⟩ : ∃ w1, w1 = w.alloc (Obj.cells #[.slice (some ⟨MB, 0, none⟩) n n, .slice none 0 0, .bool false, .bool false, .pointer none, .nilFunc] 46) := ⟨_, rfl⟩
  rw [← hw1] at hb0 ⊢
  clear hw1
  go_loopw [12] (fun v wr => ∃ k : Nat, k ≤ n ∧ v = .int .i64 k ∧ Hid (∀ i, i < k → (c.N i).toList ≠ name.toList) ∧ Below w.heap.size w wr) (fun v _ => n - (intOf v).toNat)
  case atStart => exact ⟨0, Nat.zero_le _, rfl, fun i hi => absurd hi (Nat.not_lt_zero _), hb0⟩
  case round =>
    obtain ⟨k, hkn, rfl, hbef, hb⟩ := hrel
    by_cases hlt : k < n
    · have hki : (k : Int) < (n : Int) := by omega
      have hM := h.below hb
      have hR := hr.below hb
      obtain ⟨e0, e1, e2, e3, e4, e5, e6, e7, e8⟩ := hM.cells (Nat.le_refl _) k hlt
      go_upto_region 4 with fail
      have hb2 := (Below.refl wr.heap.size wr).alloc (Nat.le_refl _) (Obj.cells #[.string (c.N k), .slice none 0 0, .bool (c.O k), .nilFunc, .nilFunc, .nilFunc, .nilFunc, .func (.func 6) #[] #[.pointer (some ⟨c.F k, 0, none⟩), .pointer (some ⟨c.F k + 1, 0, none⟩), .pointer (some ⟨c.F k + 1 + 1, 0, none⟩)], .nilFunc] 41)
      obtain ⟨w2, hw2⟩ : ∃ w2, w2 = wr.alloc (Obj.cells #[.string (c.N k), .slice none 0 0, .bool (c.O k), .nilFunc, .nilFunc, .nilFunc, .nilFunc, .func (.func 6) #[] #[.pointer (some ⟨c.F k, 0, none⟩), .pointer (some ⟨c.F k + 1, 0, none⟩), .pointer (some ⟨c.F k + 1 + 1, 0, none⟩)], .nilFunc] 41) := ⟨_, rfl⟩
      have x0 : w2.cell? ⟨wr.heap.size, 0, none⟩ = some (.string (c.N k)) := by rw [hw2]; simp [go_sem]
      have x2 : w2.cell? ⟨wr.heap.size, 2, none⟩ = some (.bool (c.O k)) := by rw [hw2]; simp [go_sem]
      have x7 : w2.cell? ⟨wr.heap.size, 7, none⟩ = some (.func (.func 6) #[] #[.pointer (some ⟨c.F k, 0, none⟩), .pointer (some ⟨c.F k + 1, 0, none⟩), .pointer (some ⟨c.F k + 1 + 1, 0, none⟩)]) := by rw [hw2]; simp [go_sem]
      rw [← hw2] at hb2 ⊢
      clear hw2 e0 e1 e2 e3 e4 e5 e6 e7 e8
      have hM2 := hM.below hb2
      have hR2 := hR.below hb2
      have hbw : Below w.heap.size w w2 := hb.trans (hb2.mono hb.size)
      clear hM hR hb hb2
      by_cases he : (c.N k).toList = name.toList
      · have he1 : ((c.N k).toList == name.toList) = true := by rw [he]; exact beq_self_eq_true _
        have HE : Hid ((c.N k).toList = name.toList) := he
        clear he
        cases ho : c.O k with
        | false =>
          rw [ho] at x2
          go_wp2
          go_ret
          exact .inr ⟨k, hlt, hbef.out, HE.out, .inl ⟨ho, rfl, hbw⟩⟩
        | true =>
          rw [ho] at x2
          go_wp2_with fail
          refine (cl_any w2 XB RB (c.F k) (c.F k + 1) (c.F k + 1 + 1) k (c.Z k) (hM2.b0 k hlt) (hM2.b1 k hlt) (hM2.b2 k hlt) hR2.r0 hR2.rf hR2.r2 (by have := hM2.lo k hlt; omega) (by have := hM2.lo k hlt; omega) (by have := hM2.lo k hlt; omega)).mono ?_
          rintro e w3 ⟨rfl, g, cap, k0, kg, k1, hK⟩
          have hk1 := k1 _ hR2.r1
          have hK3 : Kept (fun k => k = RB) w w3 := (Kept.of_below (Below.mono hbw (Nat.le_refl _))).trans hK
          clear k1 hK
          go_wp2
          go_ret
          exact .inr ⟨k, hlt, hbef.out, HE.out, .inr ⟨ho, rfl, hK3, g, cap, k0, kg, hk1⟩⟩
      · have he1 : ((c.N k).toList == name.toList) = false := by rw [beq_eq_false_iff_ne]; exact he
        have HE : Hid (¬ (c.N k).toList = name.toList) := he
        clear he
        go_wp2
        go_roundw
        case rel =>
          refine ⟨k + 1, by omega, by simp, fun i hi => ?_, hbw⟩
          by_cases e : i = k
          · subst e; exact HE.out
          · exact hbef.out i (by omega)
        case measure => simp [intOf]; omega
    · obtain rfl : k = n := by omega
      go_wp2
      go_ret
      exact .inl ⟨rfl, hbef.out, hb⟩
end Go.Proofs.Ybulkdnfq
