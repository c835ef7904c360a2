/-
  Seat b5708a: 'Rows.LawS5708CWholeSaid', proved.
-/
import Derived.Test.YbulkdneoLawC
import Derived.ProofKit
import Derived.OpenShut
import Derived.ChangeOld
import Derived.SizedLaws
import Derived.Deep.Matrix
namespace Go.Proofs.Ybulkdneo
open Go.ChangeShapes Go.WideShapes Go.ChangeAt Go.RowKit

theorem Yba.cells23 : Yba.prog.cellsOf 23 = 1 := by kernel_rfl
theorem Yba.cells5 : Yba.prog.cellsOf 5 = 1 := by kernel_rfl
theorem Yba.bytes23 : Yba.prog.bytesOf 23 = 24 := by kernel_rfl
theorem Yba.bytes5 : Yba.prog.bytesOf 5 = 1 := by kernel_rfl
theorem reach_eq : reachBytes = 140737488351232 := rfl

theorem weightsAll_mem {H : Type} {P : Program} {e : TypeId} : ∀ {l : List (DataW H)} {d : DataW H}, d ∈ l → ∀ n ∈ d.weights P e, n ∈ DataW.weightsAll P e l
  | d' :: r, d, hd, n, hn => by
    simp only [DataW.weightsAll, List.mem_append]
    rcases List.mem_cons.1 hd with rfl | h
    · exact Or.inl hn
    · exact Or.inr (weightsAll_mem h n hn)

theorem sized_inner {H : Type} {P : Program} {ts : List TypeId} {ds : List (DataW H)} (h : (DataW.weightsEach P ts ds).all (· ≤ reachBytes) = true) {j : Nat} {t e q : TypeId} {elems spare e' sp' : List (DataW H)}
    (ht : ts[j]? = some t) (hd : ds[j]? = some (.slice elems spare)) (hu : P.underlying t = some (.slice e)) (hu2 : P.underlying e = some (.slice q)) (hx : DataW.slice e' sp' ∈ elems) : (e'.length + sp'.length) * P.bytesOf q ≤ reachBytes := by
  refine of_decide_eq_true (List.all_eq_true.1 h _ (DataW.weights_mem_each ht hd _ ?_))
  simp only [DataW.weights, hu, List.mem_cons, List.mem_append]
  exact Or.inr (Or.inl (weightsAll_mem hx _ (by simp [DataW.weights, hu2])))

theorem u8_bounds {x : Int} (h : (Lit.int .u8 x).wf = true) : 0 ≤ x ∧ x ≤ 255 := by
  simp [Lit.wf, IntKind.min, IntKind.max, IntKind.signed, IntKind.bits] at h
  exact ⟨by omega, by omega⟩

/-- A byte slice that came in, as the walks want it. -/
theorem row_of_cells {w : World} {ao : Option Addr} {n c : Nat} {zs : List Int} (hnc : n ≤ c) (hz : zs.length = c) (hnil : ao = none → c = 0) (hwf : ∀ x ∈ zs, (Lit.int .u8 x).wf = true)
    (hc : ∀ a, ao = some a → ∀ i, i < c → w.cell? (a.add i) = some (.int .u8 (zs.getD i 0))) : Row w ao n c (zs.take n) := by
  refine ⟨by simp; omega, hnc, fun h => ⟨by have := hnil h; omega, hnil h⟩, fun x hx => u8_bounds (hwf x (List.mem_of_mem_take hx)), fun hn => ?_⟩
  cases ao with
  | none => have := hnil rfl; omega
  | some a =>
    obtain ⟨b, off, spot⟩ := a
    have h0 := hc _ rfl 0 (by omega)
    have hspot : spot = none := by simpa [Addr.add] using World.cell?_spot h0
    subst hspot
    refine ⟨b, off, rfl, fun i hi => ?_⟩
    rw [← add_plain, hc _ rfl i (by omega)]
    simp [List.getD, hi]

set_option maxHeartbeats 1600000 in
set_option maxRecDepth 100000 in
theorem lawC_lifted (os : Os) (started : os.Started) (H : Type) (enc : TypeId × Value → H) :
    ReturnsInHanded {} Yba.checked os 4 .any (Rows.lawS5708CWholeSpec.pre6 enc Yba.prog Yba.f4 Rows.lawS5708CWholeRow.domain false) (Rows.lawS5708CWholeSpec.post enc Yba.prog Yba.f4 false true false false) := by
  refine returnsInHanded_of_change_sized (C := Yba.checked) Yba.own started (by kernel_rfl) Yba.func4
    (ChangeSpec.witness6 (enc := enc) (C := Yba.checked) false ⟨#[], #[.slice none 0 0, .slice none 0 0, .int .u8 0, .bool false], []⟩ 8 (by kernel_rfl) (by kernel_rfl) (by kernel_rfl) (by kernel_rfl)) ?_
  intro W base args ds gs before hval0 hW hcnd hsz0 _
  have hsz : (DataW.weightsEach Yba.prog (Yba.f4.params.toList ++ Rows.lawS5708CWholeSpec.plain.varTypes Yba.prog) (ds ++ gs)).all (· ≤ reachBytes) = true := hsz0
  clear hsz0 hcnd
  have hval : ∀ (j : Nat) t v, Yba.f4.params[j]? = some t → args[j]? = some v → Value.okWide Yba.prog W .any base t v := hval0
  have hW' := hW
  obtain ⟨p, q, hA0, hV, rfl, hfz, hnd⟩ := hW
  have hA : DataW.TrodAll enc Yba.prog W 0 (fun _ => true) true Yba.f4.params.toList args.toList ds p := hA0
  rw [Yba.params4] at hA hval hsz
  obtain ⟨v0, v1, v2, v3, d0, d1, d2, d3, p0, p1, p2, p3, rfl, rfl, rfl, h0, h1, h2, h3⟩ := trodAll_four hA
  obtain ⟨rfl, rfl⟩ := trodVars_none hV
  obtain ⟨a0, len0, cap0, rfl⟩ := okWide_slice Yba.underlying39 (hval 0 39 v0 rfl rfl)
  obtain ⟨a1, len1, cap1, rfl⟩ := okWide_slice Yba.underlying23 (hval 1 23 v1 rfl rfl)
  have k0 := h0
  have k1 := h1
  have lt0 : ∀ x ∈ p0, x.block < W.heap.size := by obtain ⟨m, hm⟩ := k0; exact DataW.trod_lt m _ _ _ hm
  have lt1 : ∀ x ∈ p1, x.block < W.heap.size := by obtain ⟨m, hm⟩ := k1; exact DataW.trod_lt m _ _ _ hm
  obtain ⟨sel, rfl, rfl, rfl, w2⟩ := open_int Yba.underlying5 (hval 2 5 v2 rfl rfl) h2
  obtain ⟨pick, rfl, rfl, rfl⟩ := open_bool Yba.underlying4 (hval 3 4 v3 rfl rfl) h3
  -- pub
  obtain ⟨bs, hb, hnb⟩ : ∃ bs, Row W a1 len1 cap1 bs ∧ len1 ≤ 140737488351232 := by
    obtain ⟨fuel, hf⟩ := h1
    rcases open_ints Yba.underlying23 Yba.underlying5 Yba.cells5 hf with ⟨hcs, _⟩ | ⟨x, l, c, zs, hcs, _, hl, hm, hz, hx, hcell, hwz⟩
    · simp [Value.cells] at hcs
      obtain ⟨rfl, rfl, rfl⟩ := hcs
      exact ⟨[], ⟨rfl, Nat.le_refl _, fun _ => ⟨rfl, rfl⟩, fun x hx => by simp at hx, fun h => by omega⟩, by omega⟩
    · simp [Value.cells] at hcs
      obtain ⟨rfl, rfl, rfl⟩ := hcs
      simp only [if_true] at hz
      simp only [Prod.mk.injEq] at hx
      have hs := sized_slice hsz (j := 1) (t := 23) (e := 5) rfl (congrArg some hx.1) Yba.underlying23
      rw [Yba.bytes5, reach_eq] at hs
      simp only [lits, List.length_map, List.length_take, List.length_drop] at hs
      refine ⟨zs.take len1, row_of_cells hl hz (fun h => by simp at h) hwz (fun a ha i hi => ?_), by omega⟩
      obtain rfl := Option.some.inj ha
      exact hcell i (by omega)
  -- keys
  obtain ⟨A, L, C, Z, hk, hn⟩ : ∃ (A : Nat → Option Addr) (L C : Nat → Nat) (Z : Nat → List Int), KeysIn W a0 len0 A L C Z ∧ len0 ≤ 140737488351232 := by
    obtain ⟨fuel, hf⟩ := h0
    rcases Deep.open_int_rows Yba.underlying39 Yba.underlying23 Yba.underlying5 Yba.cells23 Yba.cells5 hf with ⟨hcs, _⟩ | ⟨a, len, cap, A, L, C, Z, hcs, _, hl, hm, hx, hr⟩
    · simp [Value.cells] at hcs
      obtain ⟨rfl, rfl, rfl⟩ := hcs
      exact ⟨fun _ => none, fun _ => 0, fun _ => 0, fun _ => [], ⟨fun h => by omega, fun j hj => by omega, fun j hj => by omega⟩, by omega⟩
    · simp [Value.cells] at hcs
      obtain ⟨rfl, rfl, rfl⟩ := hcs
      simp only [Prod.mk.injEq] at hx
      have hs := sized_slice hsz (j := 0) (t := 39) (e := 23) rfl (congrArg some hx.1) Yba.underlying39
      rw [Yba.bytes23, reach_eq] at hs
      simp only [List.length_map, List.length_range] at hs
      refine ⟨A, L, C, fun j => (Z j).take (L j), ⟨fun hn => ?_, fun j hj => ?_, fun j hj => ?_⟩, by omega⟩
      · obtain ⟨b, off, spot⟩ := a
        have hspot : spot = none := by simpa [Addr.add] using World.cell?_spot (hr 0 (by omega)).1
        subst hspot
        exact ⟨b, off, rfl, fun j hj => by rw [← add_plain]; exact (hr j (by omega)).1⟩
      · obtain ⟨_, e1, e2, e3, e4, e5, e6⟩ := hr j (by omega)
        exact row_of_cells e1 e3 e5 e4 (fun a ha i hi => (e6 a ha).2 i hi)
      · obtain ⟨_, e1, e2, e3, e4, e5, e6⟩ := hr j (by omega)
        cases hA : A j with
        | none => have := e5 hA; omega
        | some a' =>
          have hin := sized_inner hsz (j := 0) (t := 39) (e := 23) (q := 5) rfl (congrArg some hx.1) Yba.underlying39 Yba.underlying23
            (e' := lits .u8 ((Z j).take (L j))) (sp' := lits .u8 ((Z j).drop (L j)))
            (List.mem_map.2 ⟨j, List.mem_range.2 hj, by simp [Deep.intRow, hA]⟩)
          rw [Yba.bytes5, reach_eq] at hin
          simp only [lits, List.length_map, List.length_take, List.length_drop] at hin
          omega
  clear hA0 hval0 hA
  have ws := u8_bounds w2
  refine (lawC_walk W a0 a1 len0 cap0 len1 cap1 sel pick A L C Z bs hk hb hn hnb ws.1 ws.2).mono fun e W' ⟨he, bel⟩ => ?_
  subst he
  exact ⟨_, rfl, _, _, _, [], _, [], hW', trodAll_mk1 (shut_bool Yba.underlying4 _), trodAll_mk4 (Below.trod Yba.laidOut (by kernel_rfl) (of_decide_eq_true (by kernel_rfl)) k0 bel lt0) (Below.trod Yba.laidOut (by kernel_rfl) (of_decide_eq_true (by kernel_rfl)) k1 bel lt1) (shut_int Yba.underlying5 w2) (shut_bool Yba.underlying4 _), rfl, bel.frame _, fun h => by cases h⟩

theorem lawC_proved : Rows.LawS5708CWholeSaid :=
  OpenClaim.holds_of_wide 4 Yba.f4 rfl rfl rfl rfl rfl rfl rfl ⟨rfl, rfl, rfl, rfl, rfl⟩ rfl rfl rfl rfl rfl (by kernel_rfl) Yba.func4 (by kernel_rfl)
    (of_decide_eq_true (by kernel_rfl)) (by unfold Func.isWrapper; first | (rw [if_pos (by decide +kernel)]; kernel_rfl) | (rw [if_neg (by decide +kernel)]; exact ⟨rfl, rfl⟩))
    (fun os started H enc _ => lawC_lifted os started H enc)
#print axioms lawC_proved
end Go.Proofs.Ybulkdneo
