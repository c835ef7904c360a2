/-
  Seat b5708a: 'Rows.LawS5708AWholeSaid', proved.
-/
import Derived.Test.YbulkdneoLawA
import Derived.ProofKit
import Derived.OpenShut
import Derived.ChangeOld
import Derived.SizedLaws
import Derived.Deep.Slices
namespace Go.Proofs.Ybulkdneo
open Go.ChangeShapes Go.WideShapes Go.ChangeAt Go.RowKit

theorem Yba.cells5 : Yba.prog.cellsOf 5 = 1 := by kernel_rfl
theorem Yba.cells23 : Yba.prog.cellsOf 23 = 1 := by kernel_rfl
theorem Yba.cells4 : Yba.prog.cellsOf 4 = 1 := by kernel_rfl
theorem Yba.cells25 : Yba.prog.cellsOf 25 = 8 := by kernel_rfl
theorem Yba.bytes25 : Yba.prog.bytesOf 25 = 128 := by kernel_rfl
theorem Yba.bytes5 : Yba.prog.bytesOf 5 = 1 := by kernel_rfl
theorem reach_eq : reachBytes = 140737488351232 := rfl

theorem weightsAll_mem {H : Type} {P : Program} {e : TypeId} : ∀ {l : List (DataW H)} {d : DataW H}, d ∈ l → ∀ n ∈ d.weights P e, n ∈ DataW.weightsAll P e l
  | d' :: r, d, hd, n, hn => by
    simp only [DataW.weightsAll, List.mem_append]
    rcases List.mem_cons.1 hd with rfl | h
    · exact Or.inl hn
    · exact Or.inr (weightsAll_mem h n hn)

theorem u8_bounds {x : Int} (h : (Lit.int .u8 x).wf = true) : 0 ≤ x ∧ x ≤ 255 := by
  simp [Lit.wf, IntKind.min, IntKind.max, IntKind.signed, IntKind.bits] at h
  exact ⟨by omega, by omega⟩

/-- A byte slice that came in, as the walks want it. -/
theorem row_of_cells {w : World} {ao : Option Addr} {n c : Nat} {zs : List Int} (hnc : n ≤ c) (hz : zs.length = c) (hnil : ao = none → c = 0) (hwf : ∀ x ∈ zs, (Lit.int .u8 x).wf = true)
    (hc : ∀ a, ao = some a → ∀ i, i < c → w.cell? (a.add i) = some (.int .u8 (zs.getD i 0))) : Row w ao n c (zs.take n) := by
  refine ⟨by simp; omega, hnc, fun h => ⟨by have := hnil h; omega, hnil h⟩, fun x hx => u8_bounds (hwf x (List.mem_of_mem_take hx)), fun hn => ?_⟩
  cases ao with
  | none => have := hnil rfl; omega
  | some a =>
    obtain ⟨b, off, spot⟩ := a
    have h0 := hc _ rfl 0 (by omega)
    have hspot : spot = none := by simpa [Addr.add] using World.cell?_spot h0
    subst hspot
    refine ⟨b, off, rfl, fun i hi => ?_⟩
    rw [← add_plain, hc _ rfl i (by omega)]
    simp [List.getD, hi]

/-- A byte slice in a cell, opened: its shape, its row, and that its length is its datum's weight. -/
theorem open_bytes {H : Type} {enc : TypeId × Value → H} {w : World} {base fuel : Nat} {held : Bool} {cs : List Value} {x : DataW H × List MemPlace} (h : DataW.trod enc Yba.prog w base (fun _ => true) held fuel 23 cs = some x) (hwt : ∀ n ∈ x.1.weights Yba.prog 23, n ≤ reachBytes) :
    ∃ s : Sl, cs = [.slice s.a s.n s.c] ∧ SRb w s := by
  rcases open_ints Yba.underlying23 Yba.underlying5 Yba.cells5 h with ⟨hcs, _⟩ | ⟨a, l, c, zs, hcs, _, hl, hm, hz, hx, hcell, hwz⟩
  · exact ⟨⟨none, 0, 0, []⟩, hcs, ⟨rfl, Nat.le_refl _, fun _ => ⟨rfl, rfl⟩, fun x hx => by simp at hx, fun h => by simp at h⟩, by simp⟩
  · simp only [if_true] at hz
    refine ⟨⟨some a, l, c, zs.take l⟩, hcs, row_of_cells hl hz (fun h => by simp at h) hwz (fun a' ha i hi => ?_), ?_⟩
    · obtain rfl := Option.some.inj ha
      have hi' : i < c := hi
      exact hcell i (by omega)
    · have hw := hwt ((zs.take l).length + (zs.drop l).length) (by rw [hx]; simp [DataW.weights, Yba.underlying23, Yba.bytes5, lits])
      rw [reach_eq] at hw
      simp only [List.length_take, List.length_drop] at hw
      show l ≤ _
      omega

theorem len8 {α : Type} {l : List α} (h : l.length = 8) : ∃ a b c d e f g k, l = [a, b, c, d, e, f, g, k] := by
  match l, h with
  | [a, b, c, d, e, f, g, k], _ => exact ⟨a, b, c, d, e, f, g, k, rfl⟩

/-- An entry, opened. -/
theorem open_entry {H : Type} {enc : TypeId × Value → H} {w : World} {base fuel : Nat} {held : Bool} {cs : List Value} {x : DataW H × List MemPlace} (h : DataW.trod enc Yba.prog w base (fun _ => true) held fuel 25 cs = some x) (hwt : ∀ n ∈ x.1.weights Yba.prog 25, n ≤ reachBytes) :
    ∃ (s0 s1 s2 s3 s4 : Sl) (xb yb mb : Bool), cs = [.slice s0.a s0.n s0.c, .slice s1.a s1.n s1.c, .slice s2.a s2.n s2.c, .slice s3.a s3.n s3.c, .slice s4.a s4.n s4.c, .bool xb, .bool yb, .bool mb] ∧ SRb w s0 ∧ SRb w s1 ∧ SRb w s2 ∧ SRb w s3 ∧ SRb w s4 := by
  obtain ⟨xs, n, rfl, rfl, hlen, hxl, hf⟩ := DataW.trod_struct Yba.underlying25 h
  rw [Yba.cells25] at hlen
  obtain ⟨c0, c1, c2, c3, c4, c5, c6, c7, rfl⟩ := len8 hlen
  obtain ⟨x0, x1, x2, x3, x4, x5, x6, x7, rfl⟩ := len8 (l := xs) (by simpa using hxl)
  have h0 : DataW.trod enc Yba.prog w base (fun _ => true) held n 23 [c0] = some x0 := by simpa [Yba.cells23] using hf 0 _ rfl
  have h1 : DataW.trod enc Yba.prog w base (fun _ => true) held n 23 [c1] = some x1 := by simpa [Yba.cells23] using hf 1 _ rfl
  have h2 : DataW.trod enc Yba.prog w base (fun _ => true) held n 23 [c2] = some x2 := by simpa [Yba.cells23] using hf 2 _ rfl
  have h3 : DataW.trod enc Yba.prog w base (fun _ => true) held n 23 [c3] = some x3 := by simpa [Yba.cells23] using hf 3 _ rfl
  have h4 : DataW.trod enc Yba.prog w base (fun _ => true) held n 23 [c4] = some x4 := by simpa [Yba.cells23] using hf 4 _ rfl
  have h5 : DataW.trod enc Yba.prog w base (fun _ => true) held n 4 [c5] = some x5 := by simpa [Yba.cells4] using hf 5 _ rfl
  have h6 : DataW.trod enc Yba.prog w base (fun _ => true) held n 4 [c6] = some x6 := by simpa [Yba.cells4] using hf 6 _ rfl
  have h7 : DataW.trod enc Yba.prog w base (fun _ => true) held n 4 [c7] = some x7 := by simpa [Yba.cells4] using hf 7 _ rfl
  obtain ⟨s0, e0, g0⟩ := open_bytes h0 (fun m hm => hwt m (by simp only [DataW.weights, Yba.underlying25]; exact DataW.weights_mem_each (j := 0) rfl rfl m hm))
  obtain ⟨s1, e1, g1⟩ := open_bytes h1 (fun m hm => hwt m (by simp only [DataW.weights, Yba.underlying25]; exact DataW.weights_mem_each (j := 1) rfl rfl m hm))
  obtain ⟨s2, e2, g2⟩ := open_bytes h2 (fun m hm => hwt m (by simp only [DataW.weights, Yba.underlying25]; exact DataW.weights_mem_each (j := 2) rfl rfl m hm))
  obtain ⟨s3, e3, g3⟩ := open_bytes h3 (fun m hm => hwt m (by simp only [DataW.weights, Yba.underlying25]; exact DataW.weights_mem_each (j := 3) rfl rfl m hm))
  obtain ⟨s4, e4, g4⟩ := open_bytes h4 (fun m hm => hwt m (by simp only [DataW.weights, Yba.underlying25]; exact DataW.weights_mem_each (j := 4) rfl rfl m hm))
  obtain ⟨xb, e5, _⟩ := DataW.trod_bool Yba.underlying4 h5
  obtain ⟨yb, e6, _⟩ := DataW.trod_bool Yba.underlying4 h6
  obtain ⟨mb, e7, _⟩ := DataW.trod_bool Yba.underlying4 h7
  simp only [List.cons.injEq, and_true] at e0 e1 e2 e3 e4 e5 e6 e7
  subst e0 e1 e2 e3 e4 e5 e6 e7
  exact ⟨s0, s1, s2, s3, s4, xb, yb, mb, rfl, g0, g1, g2, g3, g4⟩

/-- The entries that came in, opened. -/
theorem open_entries {H : Type} {enc : TypeId × Value → H} {w : World} {fuel : Nat} {held : Bool} {ae : Option Addr} {n ce : Nat} {x : DataW H × List MemPlace} (h : DataW.trod enc Yba.prog w 0 (fun _ => true) held fuel 22 [.slice ae n ce] = some x) (hwt : ∀ m ∈ x.1.weights Yba.prog 22, m ≤ reachBytes) :
    ∃ (E : Nat → Nat → Sl) (X Y M : Nat → Bool), Ents w ae n E X Y M ∧ n ≤ 140737488351232 := by
  rcases Deep.open_slice Yba.underlying22 h with ⟨hcs, _⟩ | ⟨a, len, cap, m, f, D, Pl, hcs, _, hl, hm, hmm, rfl, hel⟩
  · simp at hcs
    obtain ⟨rfl, rfl, rfl⟩ := hcs
    exact ⟨fun _ _ => ⟨none, 0, 0, []⟩, fun _ => false, fun _ => false, fun _ => false, ⟨fun _ => rfl, fun h => absurd h (Nat.lt_irrefl _), fun j hj => absurd hj (Nat.not_lt_zero _)⟩, by omega⟩
  · simp at hcs
    obtain ⟨rfl, rfl, rfl⟩ := hcs
    simp only [if_true] at hmm
    subst hmm
    have hw0 := hwt ((((List.range n).map D).length + ((List.range (m - n)).map fun j => D (n + j)).length) * Yba.prog.bytesOf 25) (by simp [DataW.weights, Yba.underlying22])
    rw [Yba.bytes25, reach_eq] at hw0
    simp only [List.length_map, List.length_range] at hw0
    have each : ∀ j, j < n → ∃ y : (Sl × Sl × Sl × Sl × Sl) × Bool × Bool × Bool, Yba.prog.cellsOf 25 = 8 ∧ w.cells? 0 (a.add (j * 8)) 8 = some [.slice y.1.1.a y.1.1.n y.1.1.c, .slice y.1.2.1.a y.1.2.1.n y.1.2.1.c, .slice y.1.2.2.1.a y.1.2.2.1.n y.1.2.2.1.c, .slice y.1.2.2.2.1.a y.1.2.2.2.1.n y.1.2.2.2.1.c, .slice y.1.2.2.2.2.a y.1.2.2.2.2.n y.1.2.2.2.2.c, .bool y.2.1, .bool y.2.2.1, .bool y.2.2.2] ∧ SRb w y.1.1 ∧ SRb w y.1.2.1 ∧ SRb w y.1.2.2.1 ∧ SRb w y.1.2.2.2.1 ∧ SRb w y.1.2.2.2.2 := by
      intro j hj
      obtain ⟨cs', k1, k2⟩ := hel j (by omega)
      rw [Yba.cells25] at k1
      obtain ⟨s0, s1, s2, s3, s4, xb, yb, mb, rfl, g⟩ := open_entry k2 (fun q hq => hwt q (by
        simp only [DataW.weights, Yba.underlying22, List.mem_cons, List.mem_append]
        exact Or.inr (Or.inl (weightsAll_mem (List.mem_map.2 ⟨j, List.mem_range.2 hj, rfl⟩) q hq))))
      exact ⟨((s0, s1, s2, s3, s4), xb, yb, mb), Yba.cells25, k1, g⟩
    have hc : ∃ y : Nat → (Sl × Sl × Sl × Sl × Sl) × Bool × Bool × Bool, ∀ j, j < n → w.cells? 0 (a.add (j * 8)) 8 = some [.slice (y j).1.1.a (y j).1.1.n (y j).1.1.c, .slice (y j).1.2.1.a (y j).1.2.1.n (y j).1.2.1.c, .slice (y j).1.2.2.1.a (y j).1.2.2.1.n (y j).1.2.2.1.c, .slice (y j).1.2.2.2.1.a (y j).1.2.2.2.1.n (y j).1.2.2.2.1.c, .slice (y j).1.2.2.2.2.a (y j).1.2.2.2.2.n (y j).1.2.2.2.2.c, .bool (y j).2.1, .bool (y j).2.2.1, .bool (y j).2.2.2] ∧ SRb w (y j).1.1 ∧ SRb w (y j).1.2.1 ∧ SRb w (y j).1.2.2.1 ∧ SRb w (y j).1.2.2.2.1 ∧ SRb w (y j).1.2.2.2.2 := by
      refine ⟨fun j => if hj : j < n then Classical.choose (each j hj) else ((⟨none, 0, 0, []⟩, ⟨none, 0, 0, []⟩, ⟨none, 0, 0, []⟩, ⟨none, 0, 0, []⟩, ⟨none, 0, 0, []⟩), false, false, false), fun j hj => ?_⟩
      simp only [dif_pos hj]
      exact (Classical.choose_spec (each j hj)).2
    obtain ⟨y, hy⟩ := hc
    refine ⟨fun j i => match i with | 0 => (y j).1.1 | 1 => (y j).1.2.1 | 2 => (y j).1.2.2.1 | 3 => (y j).1.2.2.2.1 | _ => (y j).1.2.2.2.2, fun j => (y j).2.1, fun j => (y j).2.2.1, fun j => (y j).2.2.2, ⟨fun h => by simp at h, fun hn => ?_, fun j hj i hi => ?_⟩, by omega⟩
    · obtain ⟨b, off, spot⟩ := a
      have hspot : spot = none := by
        obtain ⟨_, _, h0⟩ := World.cells?_some (hy 0 hn).1
        have h00 := h0 0 (by omega)
        simp [Addr.add] at h00
        exact World.cell?_spot h00
      subst hspot
      refine ⟨b, off, rfl, fun j hj => ?_⟩
      obtain ⟨_, _, hcell⟩ := World.cells?_some (hy j hj).1
      have at_ : ∀ i, i < 8 → w.cell? ⟨b, off + j * 8 + i, none⟩ = w.cell? (((⟨b, off, none⟩ : Addr).add (j * 8)).add i) := fun i _ => by rw [add_plain, add_plain]
      exact ⟨(at_ 0 (by omega)).trans (hcell 0 (by omega)), (at_ 1 (by omega)).trans (hcell 1 (by omega)), (at_ 2 (by omega)).trans (hcell 2 (by omega)), (at_ 3 (by omega)).trans (hcell 3 (by omega)), (at_ 4 (by omega)).trans (hcell 4 (by omega)), (at_ 5 (by omega)).trans (hcell 5 (by omega)), (at_ 6 (by omega)).trans (hcell 6 (by omega)), (at_ 7 (by omega)).trans (hcell 7 (by omega))⟩
    · obtain ⟨_, g0, g1, g2, g3, g4⟩ := hy j hj
      match i, hi with
      | 0, _ => exact g0
      | 1, _ => exact g1
      | 2, _ => exact g2
      | 3, _ => exact g3
      | 4, _ => exact g4

set_option maxHeartbeats 1600000 in
set_option maxRecDepth 100000 in
theorem lawA_lifted (os : Os) (started : os.Started) (H : Type) (enc : TypeId × Value → H) :
    ReturnsInHanded {} Yba.checked os 3 .any (Rows.lawS5708AWholeSpec.pre6 enc Yba.prog Yba.f3 Rows.lawS5708AWholeRow.domain false) (Rows.lawS5708AWholeSpec.post enc Yba.prog Yba.f3 false true false false) := by
  refine returnsInHanded_of_change_sized (C := Yba.checked) Yba.own started (by kernel_rfl) Yba.func3
    (ChangeSpec.witness6 (enc := enc) (C := Yba.checked) false ⟨#[], #[.slice none 0 0, .slice none 0 0, .slice none 0 0, .slice none 0 0, .slice none 0 0], []⟩ 8 (by kernel_rfl) (by kernel_rfl) (by kernel_rfl) (by kernel_rfl)) ?_
  intro W base args ds gs before hval0 hW hcnd hsz0 _
  have hsz : (DataW.weightsEach Yba.prog (Yba.f3.params.toList ++ Rows.lawS5708AWholeSpec.plain.varTypes Yba.prog) (ds ++ gs)).all (· ≤ reachBytes) = true := hsz0
  clear hsz0 hcnd
  have hval : ∀ (j : Nat) t v, Yba.f3.params[j]? = some t → args[j]? = some v → Value.okWide Yba.prog W .any base t v := hval0
  have hW' := hW
  obtain ⟨p, q, hA0, hV, rfl, hfz, hnd⟩ := hW
  have hA : DataW.TrodAll enc Yba.prog W 0 (fun _ => true) true Yba.f3.params.toList args.toList ds p := hA0
  rw [Yba.params3] at hA hval hsz
  obtain ⟨v0, vs0, d0, ds0, p0, q0, hargs, rfl, rfl, h0, r0⟩ := trodAll_cons hA
  obtain ⟨v1, vs1, d1, ds1, p1, q1, rfl, rfl, rfl, h1, r1⟩ := trodAll_cons r0
  obtain ⟨v2, vs2, d2, ds2, p2, q2, rfl, rfl, rfl, h2, r2⟩ := trodAll_cons r1
  obtain ⟨v3, vs3, d3, ds3, p3, q3, rfl, rfl, rfl, h3, r3⟩ := trodAll_cons r2
  obtain ⟨v4, vs4, d4, ds4, p4, q4, rfl, rfl, rfl, h4, r4⟩ := trodAll_cons r3
  obtain ⟨rfl, rfl, rfl⟩ := trodAll_nil r4
  obtain rfl : args = #[v0, v1, v2, v3, v4] := by cases args; simp_all
  obtain ⟨rfl, rfl⟩ := trodVars_none hV
  obtain ⟨a0, len0, cap0, rfl⟩ := okWide_slice Yba.underlying22 (hval 0 22 v0 rfl rfl)
  have hsz' : (DataW.weightsEach Yba.prog [22, 23, 23, 23, 23] [d0, d1, d2, d3, d4]).all (· ≤ reachBytes) = true := hsz
  have hwt : ∀ (j : Nat) (t : TypeId) (d : DataW H), ([22, 23, 23, 23, 23] : List TypeId)[j]? = some t → [d0, d1, d2, d3, d4][j]? = some d → ∀ m ∈ d.weights Yba.prog t, m ≤ reachBytes := fun j t d ht hd m hm =>
    of_decide_eq_true (List.all_eq_true.1 hsz' _ (DataW.weights_mem_each (j := j) (t := t) (d := d) ht hd m hm))
  have k0 := h0
  have k1 := h1
  have k2 := h2
  have k3 := h3
  have k4 := h4
  have lt0 : ∀ x ∈ p0, x.block < W.heap.size := by obtain ⟨m, hm⟩ := k0; exact DataW.trod_lt m _ _ _ hm
  have lt1 : ∀ x ∈ p1, x.block < W.heap.size := by obtain ⟨m, hm⟩ := k1; exact DataW.trod_lt m _ _ _ hm
  have lt2 : ∀ x ∈ p2, x.block < W.heap.size := by obtain ⟨m, hm⟩ := k2; exact DataW.trod_lt m _ _ _ hm
  have lt3 : ∀ x ∈ p3, x.block < W.heap.size := by obtain ⟨m, hm⟩ := k3; exact DataW.trod_lt m _ _ _ hm
  have lt4 : ∀ x ∈ p4, x.block < W.heap.size := by obtain ⟨m, hm⟩ := k4; exact DataW.trod_lt m _ _ _ hm
  have one : ∀ (j : Nat) (v : Value) (d : DataW H) (ps : List MemPlace), Value.okWide Yba.prog W .any base 23 v → ([22, 23, 23, 23, 23] : List TypeId)[j]? = some 23 → [d0, d1, d2, d3, d4][j]? = some d → DataW.Trod enc Yba.prog W 0 (fun _ => true) true 23 v d ps → ∃ s : Sl, v = .slice s.a s.n s.c ∧ SRb W s := by
    intro j v d ps hok ht hd hT
    obtain ⟨a, l, c, rfl⟩ := okWide_slice Yba.underlying23 hok
    obtain ⟨fuel, hf⟩ := hT
    obtain ⟨s, hcs, hs⟩ := open_bytes (x := (d, ps)) (by simpa [Value.cells] using hf) (hwt j 23 d ht hd)
    simp only [List.cons.injEq, and_true] at hcs
    exact ⟨s, hcs, hs⟩
  obtain ⟨D0, rfl, hD0⟩ := one 1 v1 d1 p1 (hval 1 23 v1 rfl rfl) rfl rfl h1
  obtain ⟨D1, rfl, hD1⟩ := one 2 v2 d2 p2 (hval 2 23 v2 rfl rfl) rfl rfl h2
  obtain ⟨D2, rfl, hD2⟩ := one 3 v3 d3 p3 (hval 3 23 v3 rfl rfl) rfl rfl h3
  obtain ⟨D3, rfl, hD3⟩ := one 4 v4 d4 p4 (hval 4 23 v4 rfl rfl) rfl rfl h4
  obtain ⟨E, X, Y, M, hE, hn⟩ : ∃ (E : Nat → Nat → Sl) (X Y M : Nat → Bool), Ents W a0 len0 E X Y M ∧ len0 ≤ 140737488351232 := by
    obtain ⟨fuel, hf⟩ := h0
    exact open_entries (x := (d0, p0)) (by simpa [Value.cells] using hf) (hwt 0 22 d0 rfl rfl)
  clear hA0 hval0 hA one hwt
  refine (lawA_walk W a0 len0 cap0 E X Y M D0 D1 D2 D3 hE hn hD0 hD1 hD2 hD3).mono fun e W' ⟨he, bel⟩ => ?_
  subst he
  exact ⟨_, rfl, _, _, _, [], _, [], hW', trodAll_mk1 (shut_bool Yba.underlying4 _), (trodAll_cons_mk (Below.trod Yba.laidOut (by kernel_rfl) (of_decide_eq_true (by kernel_rfl)) k0 bel lt0) (trodAll_cons_mk (Below.trod Yba.laidOut (by kernel_rfl) (of_decide_eq_true (by kernel_rfl)) k1 bel lt1) (trodAll_cons_mk (Below.trod Yba.laidOut (by kernel_rfl) (of_decide_eq_true (by kernel_rfl)) k2 bel lt2) (trodAll_cons_mk (Below.trod Yba.laidOut (by kernel_rfl) (of_decide_eq_true (by kernel_rfl)) k3 bel lt3) (trodAll_cons_mk (Below.trod Yba.laidOut (by kernel_rfl) (of_decide_eq_true (by kernel_rfl)) k4 bel lt4) trodAll_mk0))))), rfl, bel.frame _, fun h => by cases h⟩

theorem lawA_proved : Rows.LawS5708AWholeSaid :=
  OpenClaim.holds_of_wide 3 Yba.f3 rfl rfl rfl rfl rfl rfl rfl ⟨rfl, rfl, rfl, rfl, rfl⟩ rfl rfl rfl rfl rfl (by kernel_rfl) Yba.func3 (by kernel_rfl)
    (of_decide_eq_true (by kernel_rfl)) (by unfold Func.isWrapper; first | (rw [if_pos (by decide +kernel)]; kernel_rfl) | (rw [if_neg (by decide +kernel)]; exact ⟨rfl, rfl⟩))
    (fun os started H enc _ => lawA_lifted os started H enc)
#print axioms lawA_proved
end Go.Proofs.Ybulkdneo
