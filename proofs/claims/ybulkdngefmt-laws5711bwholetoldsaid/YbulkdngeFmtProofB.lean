/-
  Seat b5711aF: 'Rows.LawS5711BWholeToldSaid', proved.
-/
import Derived.Test.YbulkdngeFmtLaw
import Derived.Test.YbulkdngeFmtCards
import Derived.ProofKit
import Derived.OpenShut
import Derived.ChangeOld
import Derived.ChangeSlices
import Derived.ChangeSame
import Derived.ChangeMaps5
import Derived.JoinedOf
import Derived.Carry
import Derived.Stop.JoinedAt
import Derived.Stop.JoinedTold
import Derived.SizedLaws
import Derived.Deep.Slices
import Derived.SevenToldRow
namespace Go.Proofs.YbulkdngeFmt
open Go.ChangeShapes Go.WideShapes Go.ChangeAt Go.RowKit Go.ChangeMaps
open Go.Extern.Stop Go.Stop Go.Extern
set_option linter.unusedVariables false

theorem Ybaf.own : ownKnob Ybaf.prog.godebug = none := by kernel_rfl
theorem Ybaf.laidOut : laidOutB Ybaf.pinned.checked.prog = true := by kernel_rfl
theorem Ybaf.cells26 : Ybaf.prog.cellsOf 26 = 4 := by kernel_rfl
theorem Ybaf.cells5 : Ybaf.prog.cellsOf 5 = 1 := by kernel_rfl
theorem Ybaf.cells2 : Ybaf.prog.cellsOf 2 = 1 := by kernel_rfl
theorem Ybaf.cells24 : Ybaf.prog.cellsOf 24 = 1 := by kernel_rfl
theorem Ybaf.cells9 : Ybaf.prog.cellsOf 9 = 1 := by kernel_rfl
theorem reach_eq : reachBytes = 140737488351232 := rfl

theorem u8_bounds {x : Int} (h : (Lit.int .u8 x).wf = true) : 0 ≤ x ∧ x ≤ 255 := by
  simp [Lit.wf, IntKind.min, IntKind.max, IntKind.signed, IntKind.bits] at h
  exact ⟨by omega, by omega⟩
theorem i64_bounds {x : Int} (h : (Lit.int .i64 x).wf = true) : -9223372036854775808 ≤ x ∧ x ≤ 9223372036854775807 := by
  simp [Lit.wf, IntKind.min, IntKind.max, IntKind.signed, IntKind.bits] at h
  exact ⟨by omega, by omega⟩

theorem trod_float {H : Type} {enc : TypeId × Value → H} {P : Program} {w : World} {base : Nat} {spare : Nat → Bool} {held : Bool} {fuel : Nat} {t : TypeId} {cs : List Value} {x : DataW H × List MemPlace} {k : FloatKind} (ht : P.underlying t = some (.float k)) (h : DataW.trod enc P w base spare held fuel t cs = some x) : ∃ n, cs = [.float k n] ∧ x = (.lit (.float k n), []) ∧ (Lit.float k n).wf = true := by
  cases fuel with
  | zero => simp [DataW.trod] at h
  | succ n =>
    unfold DataW.trod at h
    rw [ht] at h
    split at h <;> simp_all

theorem weightsAll_mem {H : Type} {P : Program} {e : TypeId} : ∀ {l : List (DataW H)} {d : DataW H}, d ∈ l → ∀ n ∈ d.weights P e, n ∈ DataW.weightsAll P e l
  | d' :: r, d, hd, n, hn => by
    simp only [DataW.weightsAll, List.mem_append]
    rcases List.mem_cons.1 hd with rfl | h
    · exact Or.inl hn
    · exact Or.inr (weightsAll_mem h n hn)

theorem len4 {α : Type} {l : List α} (h : l.length = 4) : ∃ a b c d, l = [a, b, c, d] := by
  match l, h with
  | [a, b, c, d], _ => exact ⟨a, b, c, d, rfl⟩

/-- What is known of a cell that came in. -/
structure Cel.Came (c : Cel) : Prop where
  q0 : 0 ≤ c.q
  q1 : c.q ≤ 255
  i0 : -9223372036854775808 ≤ c.i
  i1 : c.i ≤ 9223372036854775807
  f1 : c.fb < 18446744073709551616
  s1 : c.s.size ≤ 140737488355328

/-- A cell, opened. -/
theorem open_cell {H : Type} {enc : TypeId × Value → H} {w : World} {base fuel : Nat} {held : Bool} {cs : List Value} {x : DataW H × List MemPlace} (h : DataW.trod enc Ybaf.prog w base (fun _ => true) held fuel 26 cs = some x) (hwt : ∀ n ∈ x.1.weights Ybaf.prog 26, n ≤ reachBytes) :
    ∃ c : Cel, cs = [.int .u8 c.q, .int .i64 c.i, .float .f64 c.fb, .string c.s] ∧ c.Came := by
  obtain ⟨xs, n, rfl, rfl, hlen, hxl, hf⟩ := DataW.trod_struct Ybaf.underlying26 h
  rw [Ybaf.cells26] at hlen
  obtain ⟨c0, c1, c2, c3, rfl⟩ := len4 hlen
  obtain ⟨x0, x1, x2, x3, rfl⟩ := len4 (l := xs) (by simpa using hxl)
  have h0 : DataW.trod enc Ybaf.prog w base (fun _ => true) held n 5 [c0] = some x0 := by simpa [Ybaf.cells5] using hf 0 _ rfl
  have h1 : DataW.trod enc Ybaf.prog w base (fun _ => true) held n 2 [c1] = some x1 := by simpa [Ybaf.cells2] using hf 1 _ rfl
  have h2 : DataW.trod enc Ybaf.prog w base (fun _ => true) held n 24 [c2] = some x2 := by simpa [Ybaf.cells24] using hf 2 _ rfl
  have h3 : DataW.trod enc Ybaf.prog w base (fun _ => true) held n 9 [c3] = some x3 := by simpa [Ybaf.cells9] using hf 3 _ rfl
  obtain ⟨q, e0, _, w0⟩ := DataW.trod_int Ybaf.underlying5 h0
  obtain ⟨i, e1, _, w1⟩ := DataW.trod_int Ybaf.underlying2 h1
  obtain ⟨fb, e2, _, w2⟩ := trod_float Ybaf.underlying24 h2
  obtain ⟨s, e3, g3, w3⟩ := DataW.trod_string Ybaf.underlying9 h3
  simp only [List.cons.injEq, and_true] at e0 e1 e2 e3
  subst e0 e1 e2 e3
  have hsz := hwt s.data.toList.length (by simp only [DataW.weights, Ybaf.underlying26]; exact DataW.weights_mem_each (j := 3) rfl rfl _ (by rw [g3]; simp [DataW.weights]))
  rw [reach_eq] at hsz
  have b0 := u8_bounds w0
  have b1 := i64_bounds w1
  refine ⟨⟨q, i, fb, s⟩, rfl, ⟨b0.1, b0.2, b1.1, b1.2, by simpa [Lit.wf] using w2, ?_⟩⟩
  have : s.size = s.data.toList.length := by simp
  show s.size ≤ _
  omega

/-- The cells that came in, opened. -/
theorem open_cells {H : Type} {enc : TypeId × Value → H} {w : World} {fuel : Nat} {held : Bool} {ae : Option Addr} {n ce : Nat} {x : DataW H × List MemPlace} (h : DataW.trod enc Ybaf.prog w 0 (fun _ => true) held fuel 22 [.slice ae n ce] = some x) (hwt : ∀ m ∈ x.1.weights Ybaf.prog 22, m ≤ reachBytes) :
    ∃ C : Nat → Cel, Cells w ae n C ∧ ∀ j, j < n → (C j).Came := by
  rcases Deep.open_slice Ybaf.underlying22 h with ⟨hcs, _⟩ | ⟨a, len, cap, m, f, D, Pl, hcs, _, hl, hm, hmm, rfl, hel⟩
  · simp at hcs
    obtain ⟨rfl, rfl, rfl⟩ := hcs
    exact ⟨fun _ => ⟨0, 0, 0, ⟨#[]⟩⟩, ⟨fun h => absurd h (Nat.lt_irrefl _)⟩, fun j hj => absurd hj (Nat.not_lt_zero _)⟩
  · simp at hcs
    obtain ⟨rfl, rfl, rfl⟩ := hcs
    simp only [if_true] at hmm
    subst hmm
    have each : ∀ j, j < n → ∃ y : Cel, w.cells? 0 (a.add (j * 4)) 4 = some [.int .u8 y.q, .int .i64 y.i, .float .f64 y.fb, .string y.s] ∧ y.Came := by
      intro j hj
      obtain ⟨cs', k1, k2⟩ := hel j (by omega)
      rw [Ybaf.cells26] at k1
      obtain ⟨c, rfl, hc⟩ := open_cell k2 (fun q hq => hwt q (by
        simp only [DataW.weights, Ybaf.underlying22, List.mem_cons, List.mem_append]
        exact Or.inr (Or.inl (weightsAll_mem (List.mem_map.2 ⟨j, List.mem_range.2 hj, rfl⟩) q hq))))
      exact ⟨c, k1, hc⟩
    have hc : ∃ y : Nat → Cel, ∀ j, j < n → w.cells? 0 (a.add (j * 4)) 4 = some [.int .u8 (y j).q, .int .i64 (y j).i, .float .f64 (y j).fb, .string (y j).s] ∧ (y j).Came := by
      refine ⟨fun j => if hj : j < n then Classical.choose (each j hj) else ⟨0, 0, 0, ⟨#[]⟩⟩, fun j hj => ?_⟩
      simp only [dif_pos hj]
      exact Classical.choose_spec (each j hj)
    obtain ⟨y, hy⟩ := hc
    refine ⟨y, ⟨fun hn => ?_⟩, fun j hj => (hy j hj).2⟩
    obtain ⟨b, off, spot⟩ := a
    have hspot : spot = none := by
      obtain ⟨_, _, h0⟩ := World.cells?_some (hy 0 hn).1
      have h00 := h0 0 (by omega)
      simp [Addr.add] at h00
      exact World.cell?_spot h00
    subst hspot
    refine ⟨b, off, rfl, fun j hj => ?_⟩
    obtain ⟨_, _, hcell⟩ := World.cells?_some (hy j hj).1
    have at_ : ∀ i, i < 4 → w.cell? ⟨b, off + j * 4 + i, none⟩ = w.cell? (((⟨b, off, none⟩ : Addr).add (j * 4)).add i) := fun i _ => by rw [add_plain, add_plain]
    exact ⟨(at_ 0 (by omega)).trans (hcell 0 (by omega)), (at_ 1 (by omega)).trans (hcell 1 (by omega)), (at_ 2 (by omega)).trans (hcell 2 (by omega)), (at_ 3 (by omega)).trans (hcell 3 (by omega))⟩

/-- A byte slice that came in, opened. -/
theorem open_bytes {H : Type} {enc : TypeId × Value → H} {w : World} {base fuel : Nat} {held : Bool} {cs : List Value} {x : DataW H × List MemPlace} (h : DataW.trod enc Ybaf.prog w base (fun _ => true) held fuel 23 cs = some x) :
    ∃ a n c zs, cs = [.slice a n c] ∧ Row w a n c zs ∧ ∀ j, j < n → 0 ≤ zs.getD j 0 ∧ zs.getD j 0 ≤ 255 := by
  rcases open_ints Ybaf.underlying23 Ybaf.underlying5 Ybaf.cells5 h with ⟨hcs, _⟩ | ⟨a, l, c, zs, hcs, _, hl, hm, hz, hx, hcell, hwz⟩
  · exact ⟨none, 0, 0, [], hcs, ⟨rfl, fun _ => ⟨rfl, rfl⟩, fun h => absurd h (Nat.lt_irrefl _)⟩, fun j hj => absurd hj (Nat.not_lt_zero _)⟩
  · simp only [if_true] at hz
    have hlen : (zs.take l).length = l := by rw [List.length_take]; omega
    refine ⟨some a, l, c, zs.take l, hcs, ⟨hlen, fun h => (by cases h), fun hn => ?_⟩, fun j hj => ?_⟩
    · obtain ⟨b, off, spot⟩ := a
      have h0 := hcell 0 (by omega)
      have hspot : spot = none := by simpa [Addr.add] using World.cell?_spot h0
      subst hspot
      refine ⟨b, off, rfl, fun i hi => ?_⟩
      rw [← add_plain, hcell i (by omega)]
      simp [List.getD, hi]
    · have hm : (zs.take l).getD j 0 ∈ zs.take l := by
        have hj' : j < (zs.take l).length := by omega
        rw [List.getD, List.getElem?_eq_getElem hj', Option.getD_some]
        exact List.getElem_mem hj'
      exact u8_bounds (hwz _ (List.mem_of_mem_take hm))

set_option maxHeartbeats 1600000 in
set_option maxRecDepth 100000 in
theorem lawB_lifted (os : Os) (started : os.Started) (H : Type) (enc : TypeId × Value → H) :
    ReturnsInTold none {} Ybaf.checked os 3 .any Input.okWide ((OpenSpec.ofChange Rows.lawS5711BWholeSpec).preRow enc Ybaf.prog Ybaf.f3 [] false []) (fun F => ((OpenSpec.ofChange Rows.lawS5711BWholeSpec).at F).post enc Ybaf.prog Ybaf.f3 false true false false) (aloneAtReturn Ybaf.prog) nothingAlways := by
  refine returnsInTold_of_row (C := Ybaf.checked) (s := OpenSpec.ofChange Rows.lawS5711BWholeSpec) (by kernel_rfl) Ybaf.own started (by kernel_rfl) Ybaf.func3
    (OpenSpec.witness_stopped (enc := enc) (C := Ybaf.checked) false ⟨#[], #[.slice none 0 0, .slice none 0 0, .slice none 0 0, .int .u8 0, .int .i64 0], []⟩ 8 (by kernel_rfl) (by kernel_rfl) (by kernel_rfl) (by kernel_rfl)) ?_
  intro F W base args ds gs before _ hF hval0 hW _ _ hsz0 _ _
  have hval : ∀ (j : Nat) t v, Ybaf.f3.params[j]? = some t → args[j]? = some v → Value.okWide Ybaf.prog W .any base t v := hval0
  have hW' := hW
  obtain ⟨p, q, hA0, hV, rfl, _, _⟩ := hW
  have hA : DataW.TrodAll enc Ybaf.prog W 0 (fun _ => true) true Ybaf.f3.params.toList args.toList ds p := hA0
  have hsz : (DataW.weightsEach Ybaf.prog (Ybaf.f3.params.toList ++ (OpenSpec.ofChange Rows.lawS5711BWholeSpec).bare.plain.varTypes Ybaf.prog) (ds ++ gs)).all (· ≤ reachBytes) = true := hsz0
  rw [Ybaf.params3] at hA hval hsz
  obtain ⟨v0, vs0, d0, ds0, p0, q0, hargs, rfl, rfl, h0, r0⟩ := trodAll_cons hA
  obtain ⟨v1, vs1, d1, ds1, p1, q1, rfl, rfl, rfl, h1, r1⟩ := trodAll_cons r0
  obtain ⟨v2, vs2, d2, ds2, p2, q2, rfl, rfl, rfl, h2, r2⟩ := trodAll_cons r1
  obtain ⟨v3, vs3, d3, ds3, p3, q3, rfl, rfl, rfl, h3, r3⟩ := trodAll_cons r2
  obtain ⟨v4, vs4, d4, ds4, p4, q4, rfl, rfl, rfl, h4, r4⟩ := trodAll_cons r3
  obtain ⟨rfl, rfl, rfl⟩ := trodAll_nil r4
  obtain rfl : args = #[v0, v1, v2, v3, v4] := by cases args; simp_all
  obtain ⟨rfl, rfl⟩ := trodVars_none hV
  obtain ⟨a0, n0, c0, rfl⟩ := okWide_slice Ybaf.underlying22 (hval 0 22 v0 rfl rfl)
  have hsz' : (DataW.weightsEach Ybaf.prog [22, 23, 23, 5, 2] [d0, d1, d2, d3, d4]).all (· ≤ reachBytes) = true := hsz
  have hwt0 : ∀ m ∈ d0.weights Ybaf.prog 22, m ≤ reachBytes := fun m hm =>
    of_decide_eq_true (List.all_eq_true.1 hsz' _ (DataW.weights_mem_each (j := 0) (t := 22) (d := d0) rfl rfl m hm))
  have k0 := h0
  have k1 := h1
  have k2 := h2
  have lt0 : ∀ x ∈ p0, x.block < W.heap.size := by obtain ⟨m, hm⟩ := k0; exact DataW.trod_lt m _ _ _ hm
  have lt1 : ∀ x ∈ p1, x.block < W.heap.size := by obtain ⟨m, hm⟩ := k1; exact DataW.trod_lt m _ _ _ hm
  have lt2 : ∀ x ∈ p2, x.block < W.heap.size := by obtain ⟨m, hm⟩ := k2; exact DataW.trod_lt m _ _ _ hm
  have one : ∀ (v : Value) (d : DataW H) (ps : List MemPlace), Value.okWide Ybaf.prog W .any base 23 v → DataW.Trod enc Ybaf.prog W 0 (fun _ => true) true 23 v d ps → ∃ a n c zs, v = .slice a n c ∧ Row W a n c zs ∧ ∀ j, j < n → 0 ≤ zs.getD j 0 ∧ zs.getD j 0 ≤ 255 := by
    intro v d ps hok hT
    obtain ⟨a, l, c, rfl⟩ := okWide_slice Ybaf.underlying23 hok
    obtain ⟨fuel, hf⟩ := hT
    obtain ⟨a', n', c', zs, hcs, hr, hb⟩ := open_bytes (x := (d, ps)) (by simpa [Value.cells] using hf)
    simp only [List.cons.injEq, and_true] at hcs
    exact ⟨a', n', c', zs, hcs, hr, hb⟩
  obtain ⟨a1, n1, c1, cs, rfl, hr1, hcs⟩ := one v1 d1 p1 (hval 1 23 v1 rfl rfl) h1
  obtain ⟨a2, n2, c2, zs, rfl, hr2, _⟩ := one v2 d2 p2 (hval 2 23 v2 rfl rfl) h2
  obtain ⟨pm, rfl, rfl, rfl, w3⟩ := open_int Ybaf.underlying5 (hval 3 5 v3 rfl rfl) h3
  obtain ⟨pv, rfl, rfl, rfl, w4⟩ := open_int Ybaf.underlying2 (hval 4 2 v4 rfl rfl) h4
  obtain ⟨C, hC, hcame⟩ : ∃ C : Nat → Cel, Cells W a0 n0 C ∧ ∀ j, j < n0 → (C j).Came := by
    obtain ⟨fuel, hf⟩ := h0
    exact open_cells (x := (d0, p0)) (by simpa [Value.cells] using hf) hwt0
  clear hA0 hval0 hA one hwt0
  have b3 := u8_bounds w3
  have hwalk : Calls Ybaf.prog 3 #[.slice a0 n0 c0, .slice a1 n1 c1, .slice a2 n2 c2, .int .u8 pm, .int .i64 pv] W fun e w' => e = .returned (.bool true) ∧ Below W.heap.size W w' := by
    by_cases hbig : 65536 < n0 ∨ 65536 < n1 ∨ 1048576 < n2
    · exact law_big W a0 a1 a2 n0 c0 n1 c1 n2 c2 pm pv hbig
    · exact law_any F.told W a0 a1 a2 n0 c0 n1 c1 n2 c2 pm pv C cs zs hF hC hr1 hr2 (by omega) (by omega) (by omega) b3.1 b3.2 hcs (fun j hj => ⟨(hcame j hj).q0, (hcame j hj).q1, (hcame j hj).i0, (hcame j hj).i1, (hcame j hj).f1, (hcame j hj).s1⟩)
  refine hwalk.mono fun e W' ⟨he, bel⟩ => ?_
  subst he
  exact ⟨_, rfl, _, _, _, [], _, [], hW', trodAll_mk1 (shut_bool Ybaf.underlying4 _), (trodAll_cons_mk (Below.trod Ybaf.laidOut (by kernel_rfl) (of_decide_eq_true (by kernel_rfl)) k0 bel lt0) (trodAll_cons_mk (Below.trod Ybaf.laidOut (by kernel_rfl) (of_decide_eq_true (by kernel_rfl)) k1 bel lt1) (trodAll_cons_mk (Below.trod Ybaf.laidOut (by kernel_rfl) (of_decide_eq_true (by kernel_rfl)) k2 bel lt2) (trodAll_cons_mk (shut_int Ybaf.underlying5 w3) (trodAll_cons_mk (shut_int Ybaf.underlying2 w4) trodAll_mk0))))), rfl, bel.frame _, fun h => by cases h⟩

theorem Ybaf.stops : Ybaf.pinned.checked.prog.stops = ["fmt.errorf"] := by kernel_rfl
theorem Ybaf.stopKnobs : Ybaf.pinned.checked.prog.stopKnobs = [] := by kernel_rfl
theorem Ybaf.quiet (os : Os) : Stop.quiet Ybaf.pinned.checked.prog os := by
  intro k hk
  rw [Ybaf.stopKnobs] at hk
  cases hk

theorem lawB_proved : Rows.LawS5711BWholeToldSaid :=
  Claim7.holds_of_told_any 3 Ybaf.f3 "fmt.errorf" [] [] _ _ _ (by kernel_rfl) rfl rfl rfl Ybaf.laidOut (by kernel_rfl) rfl ⟨rfl, rfl, rfl, rfl, rfl, rfl, rfl⟩ rfl rfl (by kernel_rfl) (by kernel_rfl) Ybaf.func3 (by kernel_rfl)
    (of_decide_eq_true (by kernel_rfl)) (of_decide_eq_true (by kernel_rfl)) Ybaf.stops.symm rfl Ybaf.stopKnobs.symm (by kernel_rfl)
    (by kernel_rfl) (by kernel_rfl) (by kernel_rfl) (by kernel_rfl) (by kernel_rfl) (by kernel_rfl) (by kernel_rfl) (by kernel_rfl) (by kernel_rfl) rfl (by kernel_rfl) rfl rfl
    rfl rfl
    rfl (by kernel_rfl) (by kernel_rfl) (by kernel_rfl) (by decide) (by kernel_rfl)
    (OpenClaim.moreEntering_of (by kernel_rfl) (by kernel_rfl) (by kernel_rfl) (by kernel_rfl) (by kernel_rfl) (by kernel_rfl) (by kernel_rfl) (by kernel_rfl) (by kernel_rfl) (by kernel_rfl))
    ⟨_, WideRow.started_initial, Ybaf.quiet _⟩
    (fun os started _ H enc _ => lawB_lifted os started H enc)
end Go.Proofs.YbulkdngeFmt
