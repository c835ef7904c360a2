/-
  Seat b5711aF: what a step leaves; byte rows that the call owns; zzs5711bu64 (19).
-/
import Derived.Test.YbulkdngeFmtRows
import Derived.WalkKit
import Derived.WalkSpells
import Derived.WalkLawsBesides
import Derived.Deep.QuietTactic
import Derived.BigQuiet
import Derived.Deep.OwnRows
import Derived.Deep.Cut
import Derived.Deep.RegionHeld3
import Derived.Deep.RegionHeldLaw
import Derived.Deep.RegionLaw
import Derived.Deep.AppendLies
import Derived.Deep.Slices
import Derived.Deep.DeepCutAuto
namespace Go.Proofs.YbulkdngeFmt
open Go.RowKit
set_option linter.unusedVariables false

/-- All blocks that were there are as they were, but for those of T. -/
structure Kept (T : Nat → Prop) (w w' : World) : Prop where
  os : w'.os = w.os
  tape : w'.tape = w.tape
  output : w'.output = w.output
  size : w.heap.size ≤ w'.heap.size
  block : ∀ k, k < w.heap.size → ¬ T k → w'.heap[k]? = w.heap[k]?

theorem Kept.refl (T : Nat → Prop) (w : World) : Kept T w w := ⟨rfl, rfl, rfl, Nat.le_refl _, fun _ _ _ => rfl⟩
theorem Kept.trans {T : Nat → Prop} {a b c : World} (h : Kept T a b) (k : Kept T b c) : Kept T a c :=
  ⟨k.os.trans h.os, k.tape.trans h.tape, k.output.trans h.output, Nat.le_trans h.size k.size, fun i hi ht => (k.block i (Nat.lt_of_lt_of_le hi h.size) ht).trans (h.block i hi ht)⟩
theorem Kept.of_below {T : Nat → Prop} {w w' : World} (h : Below w.heap.size w w') : Kept T w w' := ⟨h.os, h.tape, h.output, h.size, fun k hk _ => h.block k hk⟩
theorem Kept.setCell {T : Nat → Prop} {a w : World} (h : Kept T a w) {p : Addr} (hp : T p.block) (v : Value) : Kept T a (w.setCell p v) :=
  h.trans ⟨rfl, rfl, rfl, by simp [World.setCell], fun k _ ht => Below.heap_setCell _ _ _ _ (fun e => ht (e ▸ hp))⟩
theorem Kept.mono {T T' : Nat → Prop} {a w : World} (h : Kept T a w) (ht : ∀ k, k < a.heap.size → T k → T' k) : Kept T' a w := ⟨h.os, h.tape, h.output, h.size, fun k hk hn => h.block k hk (fun x => hn (ht k hk x))⟩
theorem Kept.below {T : Nat → Prop} {B : Nat} {a w : World} (h : Kept T a w) (hB : B ≤ a.heap.size) (ht : ∀ k, T k → B ≤ k) : Below B a w :=
  ⟨h.os, h.tape, h.output, h.size, fun k hk => h.block k (by omega) (fun x => by have := ht k x; omega)⟩
theorem cell_lt {w : World} {p : Addr} {v : Value} (h : w.cell? p = some v) : p.block < w.heap.size := by
  rcases Nat.lt_or_ge p.block w.heap.size with h1 | h1
  · exact h1
  · exfalso
    have : w.heap[p.block]? = none := by simp [h1]
    simp [World.cell?, this] at h
theorem Kept.cell {T : Nat → Prop} {w w' : World} (h : Kept T w w') {p : Addr} {v : Value} (hv : w.cell? p = some v) (ht : ¬ T p.block) : w'.cell? p = some v :=
  (World.cell?_of_block (w := w) (h.block _ (cell_lt hv) ht)).trans hv
theorem heap_drew' (w : World) : w.drew.heap = w.heap := rfl
theorem below_grown {w w' : World} (h : Below w.heap.size w w') : w.grownBy w' none := ⟨h.os, h.tape, h.output, h.size, fun k hk _ => h.block k hk⟩
theorem grown_kept {T : Nat → Prop} {w w' : World} {row : Option Nat} (h : w.grownBy w' row) (hr : ∀ k, row = some k → T k) : Kept T w w' :=
  ⟨h.os, h.tape, h.output, h.size, fun k hk ht => h.block k hk (fun e => ht (hr k e.symm))⟩

/-- Bytes as cells. -/
def cellsB (bs : List Int) : List Value := bs.map (fun x => .int .u8 x)
theorem cellsB_append (a b : List Int) : cellsB (a ++ b) = cellsB a ++ cellsB b := by simp [cellsB]

/-- A byte slice that the call owns, nil or a row of its own. -/
structure OB (w : World) (B : Nat) (v : Value) (bs : List Int) : Prop where
  own : w.ownsRow B 5 1 v bs.length (cellsB bs)
  bs : B ≤ w.heap.size

theorem OB.nil (w : World) (B : Nat) (h : B ≤ w.heap.size) : OB w B (.slice none 0 0) [] := ⟨⟨rfl, .inl ⟨rfl, rfl⟩⟩, h⟩
theorem OB.ge {w : World} {B : Nat} {v : Value} {bs : List Int} (h : OB w B v bs) {k : Nat} (hk : v.ownBlock = some k) : B ≤ k ∧ k < w.heap.size := by
  rcases h.own.2 with ⟨h0, _⟩ | ⟨g, cap, cur, h0, hB, hg, _⟩
  · rw [h0] at hk; simp [Value.ownBlock] at hk
  · rw [h0] at hk
    simp [Value.ownBlock] at hk
    subst hk
    refine ⟨hB, ?_⟩
    rcases Nat.lt_or_ge g w.heap.size with h1 | h1
    · exact h1
    · rw [Array.getElem?_eq_none h1] at hg; cases hg
theorem OB.kept {T : Nat → Prop} {w w' : World} {B : Nat} {v : Value} {bs : List Int} (h : OB w B v bs) (hk : Kept T w w') (hT : ∀ k, v.ownBlock = some k → ¬ T k) : OB w' B v bs := by
  refine ⟨⟨h.own.1, ?_⟩, by have := h.bs; have := hk.size; omega⟩
  rcases h.own.2 with hz | ⟨g, cap, cur, rfl, hb, hg, rest⟩
  · exact .inl hz
  · refine .inr ⟨g, cap, cur, rfl, hb, ?_, rest⟩
    exact (hk.block g (h.ge rfl).2 (hT g rfl)).trans hg
theorem OB.below {w w' : World} {B : Nat} {v : Value} {bs : List Int} (h : OB w B v bs) (hb : Below w.heap.size w w') : OB w' B v bs := h.kept (T := fun _ => False) (Kept.of_below hb) (fun _ _ h => h)

/-- What an append to v leaves: the old row turned, or a new one. -/
structure Grew (w : World) (v : Value) (w' : World) (v' : Value) : Prop where
  kept : Kept (fun k => v.ownBlock = some k) w w'
  at_ : v'.ownBlock = v.ownBlock ∨ ∃ k, v'.ownBlock = some k ∧ w.heap.size ≤ k

theorem Grew.refl (w : World) (v : Value) : Grew w v w v := ⟨Kept.refl _ _, .inl rfl⟩
theorem Grew.trans {w1 w2 w3 : World} {v1 v2 v3 : Value} (h : Grew w1 v1 w2 v2) (k : Grew w2 v2 w3 v3) : Grew w1 v1 w3 v3 := by
  refine ⟨⟨k.kept.os.trans h.kept.os, k.kept.tape.trans h.kept.tape, k.kept.output.trans h.kept.output, Nat.le_trans h.kept.size k.kept.size, fun b hb hn => ?_⟩, ?_⟩
  · refine (k.kept.block b (Nat.lt_of_lt_of_le hb h.kept.size) (fun e => ?_)).trans (h.kept.block b hb hn)
    rcases h.at_ with e1 | ⟨q, e1, hq⟩
    · exact hn (by rw [← e1]; exact e)
    · rw [e1] at e
      obtain rfl := Option.some.inj e
      omega
  · rcases k.at_ with e1 | ⟨q, e1, hq⟩
    · rcases h.at_ with e2 | ⟨p, e2, hp⟩
      · exact .inl (e1.trans e2)
      · exact .inr ⟨p, e1.trans e2, hp⟩
    · exact .inr ⟨q, e1, Nat.le_trans h.kept.size hq⟩
theorem Grew.of_below {w w' : World} {v : Value} (h : Below w.heap.size w w') : Grew w v w' v := ⟨Kept.of_below h, .inl rfl⟩

/-- Behind wpList_append_lies: the new slice, as the walks want it. -/
theorem grew_of {w wb w3 : World} {B g cap m : Nat} {v : Value} {bs ns : List Int} (h : OB w B v bs) (hm : ns.length = m) (hb : Below w.heap.size w wb)
    (hown : w3.ownsRow B 5 1 (.slice (some ⟨g, 0, none⟩) (bs.length + m) cap) (bs.length + m) (cellsB bs ++ cellsB ns)) (hgrow : wb.grownBy w3 v.ownBlock) (hat : v.ownBlock = some g ∨ g = wb.heap.size) :
    OB w3 B (.slice (some ⟨g, 0, none⟩) (bs.length + m) cap) (bs ++ ns) ∧ Grew w v w3 (.slice (some ⟨g, 0, none⟩) (bs.length + m) cap) := by
  refine ⟨⟨?_, by have := h.bs; have := hb.size; have := hgrow.size; omega⟩, ⟨(Kept.of_below hb).trans (grown_kept hgrow (fun k hk => hk)), ?_⟩⟩
  · rw [cellsB_append, List.length_append, hm]; exact hown
  · rcases hat with e | e
    · exact .inl (by rw [e]; rfl)
    · exact .inr ⟨g, rfl, by rw [e]; exact hb.size⟩

theorem Ybaf.info5 : (Ybaf.prog.info? 5).map (fun i => (i.zero, i.size, i.bytes)) = some (some (.int .u8 0), 1, 1) := by kernel_rfl

/-- An append to a byte slice that the call owns, at a plain region's list; the new slice a letter. -/
theorem wpList_app (w : World) {ops : Array Oper} {rest : List Oper} {o : Oper} {a : Act} {Q : Exit → Act → World → Prop} (hgd : o.guard = none) (s x : Operand) (ho : o.op = .call { callee := .builtin .append, args := #[s, x], argTypes := #[23, 23] })
    (B : Nat) (v : Value) (bs ns : List Int) (hs : a.eval s = v) (hO : OB w B v bs) (ad : Addr) (m c : Nat) (hx : a.eval x = .slice (some ad) m c) (hl : ns.length = m) (hnews : ∀ j u, (cellsB ns)[j]? = some u → w.cell? (ad.add j) = some u) (hm : 0 < m) (hlen : bs.length + m ≤ 140737488355328)
    (h : ∀ v' w', OB w' B v' (bs ++ ns) → Grew w v w' v' → wpList Ybaf.prog ops Q rest (a.put o.dst v') w') : wpList Ybaf.prog ops Q (o :: rest) a w := by
  obtain ⟨ti, ht0, ht1, ht2, ht3⟩ := info_parts Ybaf.info5
  refine wpList_append_lies w hgd s x 23 ho B 5 ti _ 1 1 Ybaf.underlying23 ht0 ht1 ht2 ht3 rfl (by decide) v bs.length (cellsB bs) hs hO.own ad m c (cellsB ns) hx (by simp [cellsB, hl]) hnews (fun u hu => ?_) hm (by unfold maxLen; omega) (by omega) hO.bs _ rfl ?_
  · simp only [cellsB, List.mem_map] at hu
    obtain ⟨z, _, rfl⟩ := hu
    rfl
  · intro g cap w3 hown hgrow hat hlt
    obtain ⟨h1, h2⟩ := grew_of hO hl (Below.refl _ _) hown hgrow hat
    exact h _ _ h1 h2

end Go.Proofs.YbulkdngeFmt
