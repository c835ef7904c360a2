/-
  Seat b5709a: 'Rows.LawS5709BWholeSaid', proved.
-/
import Derived.Test.YbulkdnfcLaw
import Derived.Test.YbulkdnfcLaw0
import Derived.Test.YbulkdnfcRows
import Derived.ProofKit
import Derived.OpenShut
import Derived.ChangeOld
import Derived.SizedLaws
import Derived.Deep.Grids
namespace Go.Proofs.Ybulkdnfc
open Go.ChangeShapes Go.WideShapes Go.ChangeAt Go.RowKit
set_option linter.unusedVariables false

theorem Yba.own : ownKnob Yba.prog.godebug = none := by kernel_rfl
theorem Yba.laidOut : laidOutB Yba.prog = true := by kernel_rfl
theorem Yba.cells5 : Yba.prog.cellsOf 5 = 1 := by kernel_rfl
theorem Yba.cells32 : Yba.prog.cellsOf 32 = 1 := by kernel_rfl
theorem Yba.cells4 : Yba.prog.cellsOf 4 = 1 := by kernel_rfl
theorem Yba.bytes5 : Yba.prog.bytesOf 5 = 1 := by kernel_rfl
theorem Yba.bytes32 : Yba.prog.bytesOf 32 = 1 := by kernel_rfl
theorem Yba.bytes4 : Yba.prog.bytesOf 4 = 1 := by kernel_rfl
theorem reach_eq : reachBytes = 140737488351232 := rfl

theorem u8_bounds {x : Int} (h : (Lit.int .u8 x).wf = true) : 0 ≤ x ∧ x ≤ 255 := by
  simp [Lit.wf, IntKind.min, IntKind.max, IntKind.signed, IntKind.bits] at h
  exact ⟨by omega, by omega⟩
theorem i8_bounds {x : Int} (h : (Lit.int .i8 x).wf = true) : -128 ≤ x ∧ x ≤ 127 := by
  simp [Lit.wf, IntKind.min, IntKind.max, IntKind.signed, IntKind.bits] at h
  exact ⟨by omega, by omega⟩

theorem nums_of {k : IntKind} {w : World} {a : Addr} {n c : Nat} {zs : List Int} (hc : ∀ i, i < c → w.cell? (a.add i) = some (.int k (zs.getD i 0))) (hn : n ≤ c) : Nums k w (some a) n (fun i => zs.getD i 0) := by
  refine ⟨fun h0 => ?_⟩
  obtain ⟨b, off, spot⟩ := a
  have h := hc 0 (by omega)
  have hspot : spot = none := by simpa [Addr.add] using World.cell?_spot h
  subst hspot
  refine ⟨b, off, rfl, ?_, fun j hj => ?_⟩
  · have := cell_lt h; simpa [Addr.add] using this
  · rw [← add_plain]; exact hc j (by omega)

theorem law_any (w : World) (aa ar ad : Option Addr) (n ca nr cr nd cd : Nat) (A R : Nat → Int) (D : Nat → Bool) (hA : Nums .i8 w aa n A) (hR : Nums .u8 w ar nr R) (hD : Dels w ad nd D) (hnr : nr ≤ 9223372036854775807) (hnd : nd ≤ 9223372036854775807)
    (hAb : ∀ k, k < n → -128 ≤ A k ∧ A k ≤ 127) (hRb : ∀ k, k < nr → 0 ≤ R k ∧ R k ≤ 255) :
    Calls Yba.prog 3 #[.slice aa n ca, .slice ar nr cr, .slice ad nd cd] w fun e w' => e = .returned (.bool true) ∧ Below w.heap.size w w' := by
  by_cases h : 4096 < n
  · exact law_long w aa ar ad n ca nr cr nd cd h
  · by_cases h0 : 0 < n
    · exact law_pos w aa ar ad n ca nr cr nd cd A R D hA hR hD h0 (by omega) hnr hnd hAb hRb
    · obtain rfl : n = 0 := by omega
      exact law_nil w aa ar ad ca nr cr nd cd

set_option maxHeartbeats 1600000 in
set_option maxRecDepth 100000 in
theorem lawB_lifted (os : Os) (started : os.Started) (H : Type) (enc : TypeId × Value → H) :
    ReturnsInHanded {} Yba.checked os 3 .any (Rows.lawS5709BWholeSpec.pre6 enc Yba.prog Yba.f3 Rows.lawS5709BWholeRow.domain false) (Rows.lawS5709BWholeSpec.post enc Yba.prog Yba.f3 false true false false) := by
  refine returnsInHanded_of_change_sized (C := Yba.checked) Yba.own started (by kernel_rfl) Yba.func3
    (ChangeSpec.witness6 (enc := enc) (C := Yba.checked) false ⟨#[], #[.slice none 0 0, .slice none 0 0, .slice none 0 0], []⟩ 8 (by kernel_rfl) (by kernel_rfl) (by kernel_rfl) (by kernel_rfl)) ?_
  intro W base args ds gs before hval0 hW hcnd hsz0 _
  have hsz : (DataW.weightsEach Yba.prog (Yba.f3.params.toList ++ Rows.lawS5709BWholeSpec.plain.varTypes Yba.prog) (ds ++ gs)).all (· ≤ reachBytes) = true := hsz0
  clear hsz0 hcnd
  have hval : ∀ (j : Nat) t v, Yba.f3.params[j]? = some t → args[j]? = some v → Value.okWide Yba.prog W .any base t v := hval0
  have hW' := hW
  obtain ⟨p, q, hA0, hV, rfl, hfz, hnd⟩ := hW
  have hA : DataW.TrodAll enc Yba.prog W 0 (fun _ => true) true Yba.f3.params.toList args.toList ds p := hA0
  rw [Yba.params3] at hA hval hsz
  obtain ⟨v0, vs0, d0, ds0, p0, q0, hargs, rfl, rfl, h0, r0⟩ := trodAll_cons hA
  obtain ⟨v1, vs1, d1, ds1, p1, q1, rfl, rfl, rfl, h1, r1⟩ := trodAll_cons r0
  obtain ⟨v2, vs2, d2, ds2, p2, q2, rfl, rfl, rfl, h2, r2⟩ := trodAll_cons r1
  obtain ⟨rfl, rfl, rfl⟩ := trodAll_nil r2
  obtain rfl : args = #[v0, v1, v2] := by cases args; simp_all
  obtain ⟨rfl, rfl⟩ := trodVars_none hV
  obtain ⟨a0, len0, cap0, rfl⟩ := okWide_slice Yba.underlying22 (hval 0 22 v0 rfl rfl)
  obtain ⟨a1, len1, cap1, rfl⟩ := okWide_slice Yba.underlying23 (hval 1 23 v1 rfl rfl)
  obtain ⟨a2, len2, cap2, rfl⟩ := okWide_slice Yba.underlying24 (hval 2 24 v2 rfl rfl)
  have k0 := h0
  have k1 := h1
  have k2 := h2
  have lt0 : ∀ x ∈ p0, x.block < W.heap.size := by obtain ⟨m, hm⟩ := k0; exact DataW.trod_lt m _ _ _ hm
  have lt1 : ∀ x ∈ p1, x.block < W.heap.size := by obtain ⟨m, hm⟩ := k1; exact DataW.trod_lt m _ _ _ hm
  have lt2 : ∀ x ∈ p2, x.block < W.heap.size := by obtain ⟨m, hm⟩ := k2; exact DataW.trod_lt m _ _ _ hm
  obtain ⟨A, hAN, hAb⟩ : ∃ A, Nums .i8 W a0 len0 A ∧ ∀ k, k < len0 → -128 ≤ A k ∧ A k ≤ 127 := by
    obtain ⟨fuel, hf⟩ := h0
    rcases open_ints Yba.underlying22 Yba.underlying32 Yba.cells32 hf with ⟨hcs, _⟩ | ⟨x, l, c, zs, hcs, _, hl, hm, hz, hx, hcell, hwz⟩
    · simp [Value.cells] at hcs
      obtain ⟨rfl, rfl, rfl⟩ := hcs
      exact ⟨fun _ => 0, ⟨fun h => absurd h (Nat.lt_irrefl _)⟩, fun k hk => absurd hk (Nat.not_lt_zero _)⟩
    · simp [Value.cells] at hcs
      obtain ⟨rfl, rfl, rfl⟩ := hcs
      simp only [if_true] at hz
      refine ⟨fun i => zs.getD i 0, nums_of (c := cap0) (fun i hi => hcell i (by omega)) hl, fun k hk => ?_⟩
      refine i8_bounds (hwz _ ?_)
      show zs.getD k 0 ∈ zs
      rw [List.getD_eq_getElem?_getD, List.getElem?_eq_getElem (by omega)]
      exact List.getElem_mem _
  obtain ⟨R, hRN, hRb, hnr⟩ : ∃ R, Nums .u8 W a1 len1 R ∧ (∀ k, k < len1 → 0 ≤ R k ∧ R k ≤ 255) ∧ len1 ≤ 140737488351232 := by
    obtain ⟨fuel, hf⟩ := h1
    rcases open_ints Yba.underlying23 Yba.underlying5 Yba.cells5 hf with ⟨hcs, _⟩ | ⟨x, l, c, zs, hcs, _, hl, hm, hz, hx, hcell, hwz⟩
    · simp [Value.cells] at hcs
      obtain ⟨rfl, rfl, rfl⟩ := hcs
      exact ⟨fun _ => 0, ⟨fun h => absurd h (Nat.lt_irrefl _)⟩, fun k hk => absurd hk (Nat.not_lt_zero _), by omega⟩
    · simp [Value.cells] at hcs
      obtain ⟨rfl, rfl, rfl⟩ := hcs
      simp only [if_true] at hz
      simp only [Prod.mk.injEq] at hx
      have hs := sized_slice hsz (j := 1) (t := 23) (e := 5) rfl (congrArg some hx.1) Yba.underlying23
      rw [Yba.bytes5, reach_eq] at hs
      simp only [lits, List.length_map, List.length_take, List.length_drop] at hs
      refine ⟨fun i => zs.getD i 0, nums_of (c := cap1) (fun i hi => hcell i (by omega)) hl, fun k hk => ?_, by omega⟩
      refine u8_bounds (hwz _ ?_)
      show zs.getD k 0 ∈ zs
      rw [List.getD_eq_getElem?_getD, List.getElem?_eq_getElem (by omega)]
      exact List.getElem_mem _
  obtain ⟨D, hD, hnd2⟩ : ∃ D, Dels W a2 len2 D ∧ len2 ≤ 9223372036854775807 := by
    obtain ⟨fuel, hf⟩ := h2
    rcases Deep.open_bools Yba.underlying24 Yba.underlying4 Yba.cells4 hf with ⟨hcs, _⟩ | ⟨a, len, cap, B, hcs, _, hl, hm, hx, hcell⟩
    · simp [Value.cells] at hcs
      obtain ⟨rfl, rfl, rfl⟩ := hcs
      exact ⟨fun _ => false, ⟨fun h => absurd h (Nat.lt_irrefl _)⟩, by omega⟩
    · simp [Value.cells] at hcs
      obtain ⟨rfl, rfl, rfl⟩ := hcs
      refine ⟨B, ⟨fun h0 => ?_⟩, by unfold maxLen at hm; omega⟩
      obtain ⟨b, off, spot⟩ := a
      have h := hcell 0 (by omega)
      have hspot : spot = none := by simpa [Addr.add] using World.cell?_spot h
      subst hspot
      exact ⟨b, off, rfl, fun j hj => by rw [← add_plain]; exact hcell j (by omega)⟩
  clear hA0 hval0 hA
  refine (law_any W a0 a1 a2 len0 cap0 len1 cap1 len2 cap2 A R D hAN hRN hD (by omega) (by omega) hAb hRb).mono fun e W' ⟨he, bel⟩ => ?_
  subst he
  exact ⟨_, rfl, _, _, _, [], _, [], hW', trodAll_mk1 (shut_bool Yba.underlying4 _), (trodAll_cons_mk (Below.trod Yba.laidOut (by kernel_rfl) (of_decide_eq_true (by kernel_rfl)) k0 bel lt0) (trodAll_cons_mk (Below.trod Yba.laidOut (by kernel_rfl) (of_decide_eq_true (by kernel_rfl)) k1 bel lt1) (trodAll_cons_mk (Below.trod Yba.laidOut (by kernel_rfl) (of_decide_eq_true (by kernel_rfl)) k2 bel lt2) trodAll_mk0))), rfl, bel.frame _, fun h => by cases h⟩

theorem lawB_proved : Rows.LawS5709BWholeSaid :=
  OpenClaim.holds_of_wide 3 Yba.f3 rfl rfl rfl rfl rfl rfl rfl ⟨rfl, rfl, rfl, rfl, rfl⟩ rfl rfl rfl rfl rfl (by kernel_rfl) Yba.func3 (by kernel_rfl)
    (of_decide_eq_true (by kernel_rfl)) (by unfold Func.isWrapper; first | (rw [if_pos (by decide +kernel)]; kernel_rfl) | (rw [if_neg (by decide +kernel)]; exact ⟨rfl, rfl⟩))
    (fun os started H enc _ => lawB_lifted os started H enc)
#print axioms lawB_proved
end Go.Proofs.Ybulkdnfc
