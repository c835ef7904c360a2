/-
  Seat b5709a: the stages of the law: the world's facts, no walk.
-/
import Derived.Test.YbulkdnfcNil
import Derived.Deep.OwnRows
namespace Go.Proofs.Ybulkdnfc
open Go.RowKit
set_option linter.unusedVariables false

theorem Yba.info31 : (Yba.prog.info? 31).map (fun i => (i.zero, i.size, i.bytes)) = some (some (.pointer none), 1, 8) := by kernel_rfl
theorem Yba.info4 : (Yba.prog.info? 4).map (fun i => (i.zero, i.size, i.bytes)) = some (some (.bool false), 1, 1) := by kernel_rfl

theorem run_make_items (n : Nat) (hn : n ≤ 4096) (w : World) :
    (Instr.makeSlice 25 (.int .i64 n) (.int .i64 n)).run Yba.prog w = .ok (.slice (some ⟨w.heap.size, 0, none⟩) n n) (w.alloc (.cells (madeCells #[.pointer none] n) 31)) := by
  obtain ⟨i, hi, h1, h2, h3⟩ := info_parts Yba.info31
  have := run_make (P := Yba.prog) w 25 31 i _ Yba.underlying25 hi h1 .i64 .i64 n n (by omega) (Int.le_refl _) (by rw [h3]; omega) (by omega)
  rw [this, h2]
  simp [Value.cells]
theorem run_make_ints (n : Nat) (hn : n ≤ 4096) (w : World) :
    (Instr.makeSlice 36 (.int .i64 n) (.int .i64 n)).run Yba.prog w = .ok (.slice (some ⟨w.heap.size, 0, none⟩) n n) (w.alloc (.cells (madeCells #[.int .i64 0] n) 3)) := by
  obtain ⟨i, hi, h1, h2, h3⟩ := info_parts Yba.info3
  have := run_make (P := Yba.prog) w 36 3 i _ Yba.underlying36 hi h1 .i64 .i64 n n (by omega) (Int.le_refl _) (by rw [h3]; omega) (by omega)
  rw [this, h2]
  simp [Value.cells]
theorem run_make_bools (n : Nat) (hn : n ≤ 4096) (w : World) :
    (Instr.makeSlice 24 (.int .i64 n) (.int .i64 n)).run Yba.prog w = .ok (.slice (some ⟨w.heap.size, 0, none⟩) n n) (w.alloc (.cells (madeCells #[.bool false] n) 4)) := by
  obtain ⟨i, hi, h1, h2, h3⟩ := info_parts Yba.info4
  have := run_make (P := Yba.prog) w 24 4 i _ Yba.underlying24 hi h1 .i64 .i64 n n (by omega) (Int.le_refl _) (by rw [h3]; omega) (by omega)
  rw [this, h2]
  simp [Value.cells]

/-- The instants and the ranks that came in. -/
structure Nums (k : IntKind) (w : World) (ad : Option Addr) (n : Nat) (A : Nat → Int) : Prop where
  spot : 0 < n → ∃ b off, ad = some ⟨b, off, none⟩ ∧ b < w.heap.size ∧ ∀ j, j < n → w.cell? ⟨b, off + j, none⟩ = some (.int k (A j))
theorem Nums.below {k : IntKind} {w w' : World} {ad : Option Addr} {n : Nat} {A : Nat → Int} (h : Nums k w ad n A) (hb : Below w.heap.size w w') : Nums k w' ad n A :=
  ⟨fun hn => by
    obtain ⟨b, off, e, hlt, hc⟩ := h.spot hn
    exact ⟨b, off, e, by have := hb.size; omega, fun j hj => (hb.cell (cell_lt (hc j hj))).trans (hc j hj)⟩⟩

def rkOf (nr : Nat) (R : Nat → Int) (k : Nat) : Int := if 0 < nr then R (k % nr) else 0

def ptrCell (IB : Nat → Nat) (k i : Nat) : Value := if i < k then .pointer (some ⟨IB i, 0, none⟩) else .pointer none

/-- Behind k rounds of the first loop. -/
structure P1 (w : World) (LO DB IA Q n : Nat) (ad : Option Addr) (nd cd : Nat) (D : Nat → Bool) (c : Cfg) (J : Nat → Int) (L : Array Nat) (vq : Value) : Prop where
  dm : DM w LO DB ad nd cd D
  lo : LO ≤ IA
  iaq : IA < Q
  q : w.cell? ⟨Q, 0, none⟩ = some vq
  qf : w.frozen? ⟨Q, 0, none⟩ = false
  it : ∀ id, id < c.m → Item c w id (J id)
  ib : ∀ id, id < c.m → Q < c.IB id
  ok : c.Ok
  perm : L.toList.Perm (List.range c.m)
  row : w.rowIs IA 31 n (ptrCell c.IB c.m)
  st : (c.m = 0 ∧ vq = .slice none 0 0) ∨ ∃ g cap f, vq = .slice (some ⟨g, 0, none⟩) c.m cap ∧ Q < g ∧ QM c w Q g c.m cap f J ∧ Holds c f L

theorem P1.size {w : World} {LO DB IA Q n : Nat} {ad : Option Addr} {nd cd : Nat} {D : Nat → Bool} {c : Cfg} {J : Nat → Int} {L : Array Nat} {vq : Value} (h : P1 w LO DB IA Q n ad nd cd D c J L vq) : L.size = c.m := by
  have := h.perm.length_eq
  simpa using this

theorem perm_ids {L : Array Nat} {c : Cfg} (h : L.toList.Perm (List.range c.m)) : Ids c L := by
  intro k hk
  have : at0 L k ∈ L.toList := by simpa using at0_mem hk
  simpa using h.mem_iff.1 this
theorem perm_inj {L : Array Nat} {m : Nat} (h : L.toList.Perm (List.range m)) : Inj L := inj_nodup.2 (h.nodup_iff.2 List.nodup_range)

/-- A queue in memory owns its row. -/
theorem own_of {c : Cfg} {w : World} {Q g n cap B : Nat} {f : Nat → Value} {J : Nat → Int} {L : Array Nat} (h : QM c w Q g n cap f J) (hA : Holds c f L) (hn : L.size = n) (hB : B ≤ g) : w.ownsRow B 41 5 (.slice (some ⟨g, 0, none⟩) n cap) n (cellsOf c L) := by
  obtain ⟨cur, hh, hs, hc⟩ := h.row
  have hnc := h.nc
  refine ⟨by rw [cellsOf_length, hn], .inr ⟨g, cap, cur, rfl, hB, hh, hnc, h.cm, hs, ?_⟩⟩
  apply List.ext_getElem?
  intro i
  by_cases hi : i < n * 5
  · rw [List.getElem?_take_of_lt hi]
    have h1 : i = (i / 5) * 5 + i % 5 := by omega
    have h2 : i % 5 < 5 := Nat.mod_lt _ (by omega)
    have e1 := cellsOf_at c L (i / 5) (i % 5) (by omega) h2
    rw [← h1] at e1
    have e2 := hA (i / 5) (by omega) (i % 5) h2
    rw [← h1] at e2
    rw [e1, ← e2]
    have := hc i (by omega)
    simpa using this
  · rw [List.getElem?_eq_none (by simp; omega), List.getElem?_eq_none (by rw [cellsOf_length]; omega)]

end Go.Proofs.Ybulkdnfc
