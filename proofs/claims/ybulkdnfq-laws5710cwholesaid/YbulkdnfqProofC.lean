/-
  Seat b5710a: 'Rows.LawS5710CWholeSaid', proved.
-/
import Derived.Test.YbulkdnfqLaw
import Derived.Test.YbulkdnfqRows
import Derived.ProofKit
import Derived.OpenShut
import Derived.ChangeOld
import Derived.SizedLaws
import Derived.Deep.Slices
import Derived.ChangeMaps5
namespace Go.Proofs.Ybulkdnfq
open Go.ChangeShapes Go.WideShapes Go.ChangeAt Go.RowKit Go.ChangeMaps
set_option linter.unusedVariables false

theorem Yba.own : ownKnob Yba.prog.godebug = none := by kernel_rfl
theorem Yba.laidOut : laidOutB Yba.prog = true := by kernel_rfl
theorem Yba.cells24 : Yba.prog.cellsOf 24 = 3 := by kernel_rfl
theorem Yba.cells9 : Yba.prog.cellsOf 9 = 1 := by kernel_rfl
theorem Yba.cells4 : Yba.prog.cellsOf 4 = 1 := by kernel_rfl

theorem u8_bounds {x : Int} (h : (Lit.int .u8 x).wf = true) : 0 ≤ x ∧ x ≤ 255 := by
  simp [Lit.wf, IntKind.min, IntKind.max, IntKind.signed, IntKind.bits] at h
  exact ⟨by omega, by omega⟩

theorem len3 {α : Type} {l : List α} (h : l.length = 3) : ∃ a b c, l = [a, b, c] := by
  match l, h with
  | [a, b, c], _ => exact ⟨a, b, c, rfl⟩

/-- A member, opened. -/
theorem open_member {H : Type} {enc : TypeId × Value → H} {w : World} {base fuel : Nat} {held : Bool} {cs : List Value} {x : DataW H × List MemPlace} (h : DataW.trod enc Yba.prog w base (fun _ => true) held fuel 24 cs = some x) :
    ∃ (s : ByteArray) (o z : Bool), cs = [.string s, .bool o, .bool z] := by
  obtain ⟨xs, n, rfl, rfl, hlen, hxl, hf⟩ := DataW.trod_struct Yba.underlying24 h
  rw [Yba.cells24] at hlen
  obtain ⟨c0, c1, c2, rfl⟩ := len3 hlen
  obtain ⟨x0, x1, x2, rfl⟩ := len3 (l := xs) (by simpa using hxl)
  have h0 : DataW.trod enc Yba.prog w base (fun _ => true) held n 9 [c0] = some x0 := by simpa [Yba.cells9] using hf 0 _ rfl
  have h1 : DataW.trod enc Yba.prog w base (fun _ => true) held n 4 [c1] = some x1 := by simpa [Yba.cells4] using hf 1 _ rfl
  have h2 : DataW.trod enc Yba.prog w base (fun _ => true) held n 4 [c2] = some x2 := by simpa [Yba.cells4] using hf 2 _ rfl
  obtain ⟨s, e0, _, _⟩ := DataW.trod_string Yba.underlying9 h0
  obtain ⟨o, e1, _⟩ := DataW.trod_bool Yba.underlying4 h1
  obtain ⟨z, e2, _⟩ := DataW.trod_bool Yba.underlying4 h2
  simp only [List.cons.injEq, and_true] at e0 e1 e2
  subst e0 e1 e2
  exact ⟨s, o, z, rfl⟩

/-- The members that came in, opened. -/
theorem open_members {H : Type} {enc : TypeId × Value → H} {w : World} {fuel : Nat} {held : Bool} {ae : Option Addr} {n ce : Nat} {x : DataW H × List MemPlace} (h : DataW.trod enc Yba.prog w 0 (fun _ => true) held fuel 22 [.slice ae n ce] = some x) :
    ∃ c : Cfg, Ms w ae n c ∧ n ≤ 9223372036854775807 := by
  rcases Deep.open_slice Yba.underlying22 h with ⟨hcs, _⟩ | ⟨a, len, cap, m, f, D, Pl, hcs, _, hl, hm, hmm, rfl, hel⟩
  · simp at hcs
    obtain ⟨rfl, rfl, rfl⟩ := hcs
    exact ⟨⟨fun _ => ByteArray.empty, fun _ => false, fun _ => false, fun _ => 0⟩, ⟨fun h => absurd h (Nat.lt_irrefl _)⟩, by omega⟩
  · simp at hcs
    obtain ⟨rfl, rfl, rfl⟩ := hcs
    simp only [if_true] at hmm
    subst hmm
    have each : ∀ j, j < n → ∃ y : ByteArray × Bool × Bool, w.cells? 0 (a.add (j * 3)) 3 = some [.string y.1, .bool y.2.1, .bool y.2.2] := by
      intro j hj
      obtain ⟨cs', k1, k2⟩ := hel j (by omega)
      rw [Yba.cells24] at k1
      obtain ⟨s, o, z, rfl⟩ := open_member k2
      exact ⟨(s, o, z), k1⟩
    have hc : ∃ y : Nat → ByteArray × Bool × Bool, ∀ j, j < n → w.cells? 0 (a.add (j * 3)) 3 = some [.string (y j).1, .bool (y j).2.1, .bool (y j).2.2] := by
      refine ⟨fun j => if hj : j < n then Classical.choose (each j hj) else (ByteArray.empty, false, false), fun j hj => ?_⟩
      simp only [dif_pos hj]
      exact Classical.choose_spec (each j hj)
    obtain ⟨y, hy⟩ := hc
    refine ⟨⟨fun j => (y j).1, fun j => (y j).2.1, fun j => (y j).2.2, fun _ => 0⟩, ⟨fun hn => ?_⟩, by unfold maxLen at hm; omega⟩
    obtain ⟨b, off, spot⟩ := a
    have hspot : spot = none := by
      obtain ⟨_, _, h0⟩ := World.cells?_some (hy 0 hn)
      have h00 := h0 0 (by omega)
      simp [Addr.add] at h00
      exact World.cell?_spot h00
    subst hspot
    refine ⟨b, off, rfl, fun j hj => ?_⟩
    obtain ⟨_, _, hcell⟩ := World.cells?_some (hy j hj)
    have at_ : ∀ i, i < 3 → w.cell? ⟨b, off + j * 3 + i, none⟩ = w.cell? (((⟨b, off, none⟩ : Addr).add (j * 3)).add i) := fun i _ => by rw [add_plain, add_plain]
    exact ⟨(at_ 0 (by omega)).trans (hcell 0 (by omega)), (at_ 1 (by omega)).trans (hcell 1 (by omega)), (at_ 2 (by omega)).trans (hcell 2 (by omega))⟩

set_option maxHeartbeats 1600000 in
set_option maxRecDepth 100000 in
theorem lawC_lifted (os : Os) (started : os.Started) (H : Type) (enc : TypeId × Value → H) :
    ReturnsInHanded {} Yba.checked os 3 .any (Rows.lawS5710CWholeSpec.pre6 enc Yba.prog Yba.f3 Rows.lawS5710CWholeRow.domain false) (Rows.lawS5710CWholeSpec.post enc Yba.prog Yba.f3 false true false false) := by
  refine returnsInHanded_of_change_sized (C := Yba.checked) Yba.own started (by kernel_rfl) Yba.func3
    (ChangeSpec.witness6 (enc := enc) (C := Yba.checked) false ⟨#[], #[.slice none 0 0, .string ByteArray.empty, .int .u8 0, .int .i64 0], []⟩ 8 (by kernel_rfl) (by kernel_rfl) (by kernel_rfl) (by kernel_rfl)) ?_
  intro W base args ds gs before hval0 hW hcnd hsz0 _
  clear hsz0 hcnd
  have hval : ∀ (j : Nat) t v, Yba.f3.params[j]? = some t → args[j]? = some v → Value.okWide Yba.prog W .any base t v := hval0
  have hW' := hW
  obtain ⟨p, q, hA0, hV, rfl, hfz, hnd⟩ := hW
  have hA : DataW.TrodAll enc Yba.prog W 0 (fun _ => true) true Yba.f3.params.toList args.toList ds p := hA0
  rw [Yba.params3] at hA hval
  obtain ⟨v0, v1, v2, v3, d0, d1, d2, d3, p0, p1, p2, p3, rfl, rfl, rfl, h0, h1, h2, h3⟩ := trodAll_four hA
  obtain ⟨rfl, rfl⟩ := trodVars_none hV
  obtain ⟨a0, len0, cap0, rfl⟩ := okWide_slice Yba.underlying22 (hval 0 22 v0 rfl rfl)
  have k0 := h0
  have lt0 : ∀ x ∈ p0, x.block < W.heap.size := by obtain ⟨m, hm⟩ := k0; exact DataW.trod_lt m _ _ _ hm
  obtain ⟨name, rfl, rfl, rfl, w1⟩ := open_string Yba.underlying9 (hval 1 9 v1 rfl rfl) h1
  obtain ⟨sel, rfl, rfl, rfl, w2⟩ := open_int Yba.underlying5 (hval 2 5 v2 rfl rfl) h2
  obtain ⟨vv, rfl, rfl, rfl, w3⟩ := open_int Yba.underlying3 (hval 3 3 v3 rfl rfl) h3
  obtain ⟨c, hM, hn⟩ : ∃ c : Cfg, Ms W a0 len0 c ∧ len0 ≤ 9223372036854775807 := by
    obtain ⟨fuel, hf⟩ := h0
    exact open_members (x := (d0, p0)) (by simpa [Value.cells] using hf)
  clear hA0 hval0 hA
  have ws := u8_bounds w2
  refine (law_any W a0 len0 cap0 name sel vv c hM ws.1 ws.2 hn).mono fun e W' ⟨he, bel⟩ => ?_
  subst he
  exact ⟨_, rfl, _, _, _, [], _, [], hW', trodAll_mk1 (shut_bool Yba.underlying4 _), trodAll_mk4 (Below.trod Yba.laidOut (by kernel_rfl) (of_decide_eq_true (by kernel_rfl)) k0 bel lt0) (shut_string Yba.underlying9 w1) (shut_int Yba.underlying5 w2) (shut_int Yba.underlying3 w3), rfl, bel.frame _, fun h => by cases h⟩

theorem lawC_proved : Rows.LawS5710CWholeSaid :=
  OpenClaim.holds_of_wide 3 Yba.f3 rfl rfl rfl rfl rfl rfl rfl ⟨rfl, rfl, rfl, rfl, rfl⟩ rfl rfl rfl rfl rfl (by kernel_rfl) Yba.func3 (by kernel_rfl)
    (of_decide_eq_true (by kernel_rfl)) (by unfold Func.isWrapper; first | (rw [if_pos (by decide +kernel)]; kernel_rfl) | (rw [if_neg (by decide +kernel)]; exact ⟨rfl, rfl⟩))
    (fun os started H enc _ => lawC_lifted os started H enc)
#print axioms lawC_proved
end Go.Proofs.Ybulkdnfq
