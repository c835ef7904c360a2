/-
  Seat b5711aF: bytes.Clone (5), slices.Clone (6), errors.New (7), bytes.Equal (10).
-/
import Derived.Test.YbulkdngeFmtCell
import Derived.Laws.AppendOwnNone
import Derived.Laws.BytesArg
import Derived.Lib.SliceRun
namespace Go.Proofs.YbulkdngeFmt
open Go.RowKit
set_option linter.unusedVariables false

/-- A byte slice '.slice ao n c' of the world w whose bytes are zs. -/
structure Row (w : World) (ao : Option Addr) (n c : Nat) (zs : List Int) : Prop where
  len : zs.length = n
  nil : ao = none → n = 0 ∧ c = 0
  spot : 0 < n → ∃ b off, ao = some ⟨b, off, none⟩ ∧ ∀ i, i < n → w.cell? ⟨b, off + i, none⟩ = some (.int .u8 (zs.getD i 0))

theorem Row.keep {w w' : World} {ao : Option Addr} {n c : Nat} {zs : List Int} (h : Row w ao n c zs) (hk : ∀ b off, ao = some ⟨b, off, none⟩ → b < w.heap.size → w'.heap[b]? = w.heap[b]?) : Row w' ao n c zs :=
  ⟨h.len, h.nil, fun hn => by
    obtain ⟨b, off, e, hc⟩ := h.spot hn
    exact ⟨b, off, e, fun i hi => (World.cell?_of_block (hk b off e (cell_lt (hc i hi)))).trans (hc i hi)⟩⟩
theorem Row.below {w w' : World} {ao : Option Addr} {n c : Nat} {zs : List Int} (h : Row w ao n c zs) (hb : Below w.heap.size w w') : Row w' ao n c zs :=
  h.keep fun b off _ hlt => hb.block b hlt

theorem OB.row {w : World} {B : Nat} {v : Value} {bs : List Int} (h : OB w B v bs) : ∃ ao n c, v = .slice ao n c ∧ Row w ao n c bs ∧ (∀ a, ao = some a → B ≤ a.block ∧ a.block < w.heap.size) := by
  rcases h.own.2 with ⟨rfl, h0⟩ | ⟨g, cap, cur, rfl, hB, hg, hn, hc, hs, ht⟩
  · refine ⟨none, 0, 0, rfl, ⟨h0, fun _ => ⟨rfl, rfl⟩, fun h => absurd h (Nat.lt_irrefl _)⟩, fun a ha => by cases ha⟩
  · refine ⟨some ⟨g, 0, none⟩, bs.length, cap, rfl, ⟨rfl, fun h => (by cases h), fun _ => ⟨g, 0, rfl, fun i hi => ?_⟩⟩, fun a ha => ?_⟩
    · have e : cur[i]? = some (.int .u8 (bs.getD i 0)) := by
        have h2 : (cur.toList.take (bs.length * 1))[i]? = (cellsB bs)[i]? := by rw [ht]
        rw [List.getElem?_take] at h2
        simp [cellsB, hi, List.getD] at h2 ⊢
        exact h2
      simp [World.cell?, hg, e]
    · obtain rfl := Option.some.inj ha
      exact h.ge rfl

theorem run_convert_row {P : Program} {w : World} {ao : Option Addr} {n c : Nat} {zs : List Int} (h : Row w ao n c zs) (src e dst : TypeId) (hs : P.underlying src = some (.slice e)) (he : P.underlying e = some (.int .u8)) (hd : P.underlying dst = some .string) :
    (convert src dst (.slice ao n c)).run P w = .ok (.string (strOfNums zs)) w := by
  have hl := h.len
  rcases Nat.eq_zero_or_pos n with h0 | h0
  · subst h0
    obtain rfl : zs = [] := List.eq_nil_of_length_eq_zero hl
    cases ao with
    | none =>
      rw [run_convert_bytes_nil w src e hs he _ _ dst hd]
      rfl
    | some a =>
      have hlc := run_loadCells_list (P := P) w a [] (fun j v hj => by simp at hj)
      rw [run_convert_bytes_string w src dst e _ 0 c hs he hd, run_bytesToString w _ 0 c [] (by simpa using hlc), foldl_push_bytes]
      rfl
  · obtain ⟨b, off, rfl, hc⟩ := h.spot h0
    exact run_convert_bytes_arg w src e hs he b off n c zs hl hc dst hd

set_option maxHeartbeats 400000 in
theorem equal_same (w : World) (a0 a1 : Option Addr) (n0 c0 n1 c1 : Nat) (xs : List Int) (h0 : Row w a0 n0 c0 xs) (h1 : Row w a1 n1 c1 xs) :
    Calls Ybaf.prog 10 #[.slice a0 n0 c0, .slice a1 n1 c1] w fun e w' => e = .returned (.bool true) ∧ w' = w := by
  have k0 := run_convert_row (P := Ybaf.prog) h0 23 5 9 Ybaf.underlying23 Ybaf.underlying5 Ybaf.underlying9
  have k1 := run_convert_row (P := Ybaf.prog) h1 23 5 9 Ybaf.underlying23 Ybaf.underlying5 Ybaf.underlying9
  clear h0 h1
  obtain ⟨s0, hs0⟩ : ∃ s, s = strOfNums xs := ⟨_, rfl⟩
  rw [← hs0] at k0 k1
  clear hs0
  go_enter Ybaf.func10, Ybaf.ntmps10
  go_wp2
  go_ret
  exact ⟨by simp, rfl⟩

/-- bytes.Clone: nil stays nil; else the same bytes in a block of the call's own. -/
theorem clone_any (w : World) (ao : Option Addr) (n c : Nat) (zs : List Int) (h : Row w ao n c zs) (hm : n ≤ 140737488355328) :
    Calls Ybaf.prog 5 #[.slice ao n c] w fun e w' => ∃ v', e = .returned v' ∧ OB w' w.heap.size v' zs ∧ (v' = .slice none 0 0 ↔ ao = none) ∧ Below w.heap.size w w' := by
  have q22 : ∀ (w : World) (a : Option Addr) (n c n' c' : Nat), (binOp .eql 23 (.slice a n c) (.slice none n' c')).run Ybaf.prog w = .ok (.bool a.isNone) w := fun w a n c n' c' => Lib.run_eql_slice_nil w _ _ a n c n' c' Ybaf.underlying23
  cases ao with
  | none =>
    obtain ⟨rfl, rfl⟩ := h.nil rfl
    obtain rfl : zs = [] := List.eq_nil_of_length_eq_zero h.len
    go_enter Ybaf.func5, Ybaf.ntmps5
    go_wp2
    go_ret
    exact ⟨_, rfl, OB.nil _ _ (Nat.le_refl _), by simp, Below.refl _ _⟩
  | some a =>
    obtain ⟨i0, hi, hz0, hz1, hz2⟩ := info_parts Ybaf.info5
    have hx := h.len
    have A : Hid (∀ i, i < n → w.cell? (a.add i) = some (.int .u8 (zs.getD i 0))) := by
      intro i hin
      obtain ⟨b, off, e, hc⟩ := h.spot (by omega)
      obtain rfl := Option.some.inj e
      rw [Addr.add_lit]
      exact hc i hin
    clear h
    go_enter Ybaf.func5, Ybaf.ntmps5
    go_wp2_with (at_builtin; refine wpList_append_own _ rfl _ _ 23 rfl w.heap.size 5 i0 (.int .u8 0) 1 1 Ybaf.underlying23 hi hz0 hz1 hz2 rfl (by decide) _ _ _ rfl (World.ownsRow_made w #[] 0 (Nat.le_refl _) (Nat.zero_le _) rfl) a n c (cellsB zs) rfl ?qc1 ?qc2 ?qc3 ?qc4 ?qc5 ?qc6 ?_)
    case qc1 => simp [cellsB]; omega
    case qc2 =>
      intro j u hj
      have hjn : j < n := by
        have := (List.getElem?_eq_some_iff.1 hj).1
        simp [cellsB] at this
        omega
      refine Lib.cell?_alloc_some _ ?_
      rw [A.out j hjn]
      have e : (cellsB zs)[j]? = some (Value.int .u8 (zs.getD j 0)) := by simp [cellsB, List.getD, List.getElem?_eq_getElem (show j < zs.length by omega)]
      rw [e] at hj
      exact hj
    case qc3 => intro u hu; obtain ⟨x, _, rfl⟩ := List.mem_map.1 hu; rfl
    case qc4 => unfold maxLen; omega
    case qc5 => omega
    case qc6 => simp
    intro v' w1 hown hgrow hnil
    go_wp2
    go_ret
    have bel : Below w.heap.size w w1 := ((Below.refl _ w).alloc (Nat.le_refl _) _).grown hgrow (by simp) (by intro k hk; simp [Value.ownBlock] at hk; omega)
    refine ⟨v', rfl, ⟨by rw [hx]; simpa using hown, bel.size⟩, by simpa using hnil, bel⟩

/-- A value's four cells. -/
def Cel.vc (c : Cel) (t : Nat) : Value := match t with | 0 => .int .u8 c.vq | 1 => .int .i64 c.vi | 2 => .float .f64 c.vf | _ => .string c.vs
theorem Cel.vc_one (c : Cel) (t : Nat) : (c.vc t).oneCell' = true := by unfold Cel.vc; split <;> rfl

/-- n values lie at the block b. -/
structure Vals (w : World) (b n : Nat) (C : Nat → Cel) : Prop where
  c0 : ∀ j, j < n → w.cell? ⟨b, j * 4, none⟩ = some (.int .u8 (C j).vq)
  c1 : ∀ j, j < n → w.cell? ⟨b, j * 4 + 1, none⟩ = some (.int .i64 (C j).vi)
  c2 : ∀ j, j < n → w.cell? ⟨b, j * 4 + 1 + 1, none⟩ = some (.float .f64 (C j).vf)
  c3 : ∀ j, j < n → w.cell? ⟨b, j * 4 + 1 + 1 + 1, none⟩ = some (.string (C j).vs)
theorem Vals.keep {w w' : World} {b n : Nat} {C : Nat → Cel} (h : Vals w b n C) (hk : b < w.heap.size → w'.heap[b]? = w.heap[b]?) : Vals w' b n C :=
  ⟨fun j hj => (World.cell?_of_block (hk (cell_lt (h.c0 j hj)))).trans (h.c0 j hj), fun j hj => (World.cell?_of_block (hk (cell_lt (h.c0 j hj)))).trans (h.c1 j hj), fun j hj => (World.cell?_of_block (hk (cell_lt (h.c0 j hj)))).trans (h.c2 j hj), fun j hj => (World.cell?_of_block (hk (cell_lt (h.c0 j hj)))).trans (h.c3 j hj)⟩
theorem Vals.below {w w' : World} {b n : Nat} {C : Nat → Cel} (h : Vals w b n C) (hb : Below w.heap.size w w') : Vals w' b n C := h.keep (fun hlt => hb.block b hlt)
theorem Vals.kept {T : Nat → Prop} {w w' : World} {b n : Nat} {C : Nat → Cel} (h : Vals w b n C) (hb : Kept T w w') (ht : ¬ T b) : Vals w' b n C := h.keep (fun hlt => hb.block b hlt ht)

def valCells (n : Nat) (C : Nat → Cel) : List Value := (List.range (n * 4)).map (fun i => (C (i / 4)).vc (i % 4))
theorem valCells_at (n : Nat) (C : Nat → Cel) (j t : Nat) (hj : j < n) (ht : t < 4) : (valCells n C)[j * 4 + t]? = some ((C j).vc t) := by
  have h : j * 4 + t < n * 4 := by omega
  have e1 : (j * 4 + t) / 4 = j := by omega
  have e2 : (j * 4 + t) % 4 = t := by omega
  simp [valCells, h, e1, e2]
theorem Vals.cells {w : World} {b n : Nat} {C : Nat → Cel} (h : Vals w b n C) (j : Nat) (u : Value) (hu : (valCells n C)[j]? = some u) : w.cell? ⟨b, 0 + j, none⟩ = some u := by
  have hlt : j < n * 4 := by
    have := (List.getElem?_eq_some_iff.1 hu).1
    simpa [valCells] using this
  rw [Nat.zero_add]
  obtain ⟨q, t, ht, rfl⟩ : ∃ q t, t < 4 ∧ j = q * 4 + t := ⟨j / 4, j % 4, by omega, by omega⟩
  have hq : q < n := by omega
  rw [valCells_at n C q t hq ht] at hu
  obtain rfl := Option.some.inj hu
  match t, ht with
  | 0, _ => exact h.c0 q hq
  | 1, _ => exact h.c1 q hq
  | 2, _ => exact h.c2 q hq
  | 3, _ => exact h.c3 q hq
theorem Vals.of_block {w : World} {b n : Nat} {C : Nat → Cel} {cur : Array Value} {t : TypeId} {fr : Nat × Nat} (hb : w.heap[b]? = some (.cells cur t fr)) (hc : cur.toList.take (n * 4) = valCells n C) : Vals w b n C := by
  have key : ∀ j t, j < n → t < 4 → w.cell? ⟨b, j * 4 + t, none⟩ = some ((C j).vc t) := by
    intro j t hj ht
    have h2 := valCells_at n C j t hj ht
    rw [← hc, List.getElem?_take] at h2
    have h : j * 4 + t < n * 4 := by omega
    simp [h] at h2
    simp [World.cell?, hb, h2]
  exact ⟨fun j hj => key j 0 hj (by omega), fun j hj => key j 1 hj (by omega), fun j hj => key j 2 hj (by omega), fun j hj => key j 3 hj (by omega)⟩

theorem Ybaf.info30 : (Ybaf.prog.info? 30).map (fun i => (i.zero, i.size, i.bytes)) = some (some (.agg #[.int .u8 0, .int .i64 0, .float .f64 0, .string ⟨#[]⟩]), 4, 40) := by kernel_rfl

/-- slices.Clone at the values' type: the same values in a block of the call's own. -/
theorem vclone_any (w : World) (b n c : Nat) (C : Nat → Cel) (h : Vals w b n C) (hm : n ≤ 1048576) :
    Calls Ybaf.prog 6 #[.slice (some ⟨b, 0, none⟩) n c] w fun e w' => ∃ g cap, e = .returned (.slice (some ⟨g, 0, none⟩) n cap) ∧ Vals w' g n C ∧ w.heap.size ≤ g ∧ g < w'.heap.size ∧ Below w.heap.size w w' := by
  have q22 : ∀ (w : World) (a : Option Addr) (n c n' c' : Nat), (binOp .eql 27 (.slice a n c) (.slice none n' c')).run Ybaf.prog w = .ok (.bool a.isNone) w := fun w a n c n' c' => Lib.run_eql_slice_nil w _ _ a n c n' c' Ybaf.underlying27
  obtain ⟨i0, hi, hz0, hz1, hz2⟩ := info_parts Ybaf.info30
  have A : Hid (∀ j u, (valCells n C)[j]? = some u → w.cell? ⟨b, 0 + j, none⟩ = some u) := h.cells
  clear h
  go_enter Ybaf.func6, Ybaf.ntmps6
  go_wp2_with (at_builtin; refine wpList_append_own _ rfl _ _ 27 rfl w.heap.size 30 i0 (.agg #[.int .u8 0, .int .i64 0, .float .f64 0, .string ⟨#[]⟩]) 4 40 Ybaf.underlying27 hi hz0 hz1 hz2 rfl (by decide) _ _ _ rfl (World.ownsRow_made w #[] 0 (Nat.le_refl _) (Nat.zero_le _) (by simp)) ⟨b, 0, none⟩ n c (valCells n C) rfl ?qc1 ?qc2 ?qc3 ?qc4 ?qc5 ?qc6 ?_)
  case qc1 => simp [valCells]
  case qc2 =>
    intro j u hj
    rw [Addr.add_lit]
    exact Lib.cell?_alloc_some _ (A.out j u hj)
  case qc3 => intro u hu; obtain ⟨x, _, rfl⟩ := List.mem_map.1 hu; exact Cel.vc_one _ _
  case qc4 => unfold maxLen; omega
  case qc5 => omega
  case qc6 => simp
  intro v' w1 hown hgrow hnil
  have bel : Below w.heap.size w w1 := ((Below.refl _ w).alloc (Nat.le_refl _) _).grown hgrow (by simp) (by intro k hk; simp [Value.ownBlock] at hk; omega)
  have OW : Hid _ := hown
  have NI : Hid _ := hnil
  clear hown hgrow hnil
  go_wp2
  go_ret
  have hown := OW.out
  rcases hown.2 with ⟨e, _⟩ | ⟨g, cap, cur, rfl, hB, hg, hn, hc, hs, ht⟩
  · exact absurd e NI.out
  · refine ⟨g, cap, by simp, Vals.of_block hg (by simpa using ht), hB, ?_, bel⟩
    rcases Nat.lt_or_ge g w1.heap.size with h1 | h1
    · exact h1
    · rw [Array.getElem?_eq_none h1] at hg; cases hg

set_option maxHeartbeats 400000 in
theorem new_any (w : World) (s : ByteArray) : Calls Ybaf.prog 7 #[.string s] w fun e w' => e = .returned (.iface 60 (.pointer (some ⟨w.heap.size, 0, none⟩))) ∧ w' = w.alloc (Obj.cells #[.string s] 62) := by
  go_enter Ybaf.func7, Ybaf.ntmps7
  go_wp2
  go_ret
  exact ⟨rfl, rfl⟩
end Go.Proofs.YbulkdngeFmt
