/-
  Seat b5711aF: entryKey (9).
-/
import Derived.Test.YbulkdngeFmtIs
namespace Go.Proofs.YbulkdngeFmt
open Go.RowKit
set_option linter.unusedVariables false

/-- The columns: m numbers at the start of a block. -/
structure Cols (w : World) (ao : Option Addr) (m : Nat) (ks : Nat → Nat) : Prop where
  spot : 0 < m → ∃ b, ao = some ⟨b, 0, none⟩ ∧ ∀ j, j < m → w.cell? ⟨b, j, none⟩ = some (.int .i64 (ks j))
theorem Cols.keep {w w' : World} {ao : Option Addr} {m : Nat} {ks : Nat → Nat} (h : Cols w ao m ks) (hk : ∀ a, ao = some a → a.block < w.heap.size → w'.heap[a.block]? = w.heap[a.block]?) : Cols w' ao m ks :=
  ⟨fun hm => by
    obtain ⟨b, e, hc⟩ := h.spot hm
    exact ⟨b, e, fun j hj => (World.cell?_of_block (a := ⟨b, j, none⟩) (hk ⟨b, 0, none⟩ e (show b < _ from cell_lt (p := ⟨b, j, none⟩) (hc j hj)))).trans (hc j hj)⟩⟩
theorem Cols.below {w w' : World} {ao : Option Addr} {m : Nat} {ks : Nat → Nat} (h : Cols w ao m ks) (hb : Below w.heap.size w w') : Cols w' ao m ks := h.keep fun a _ hlt => hb.block _ hlt

/-- The keys' bytes, one cell after the other. -/
def encs (C : Nat → Cel) (ks : Nat → Nat) : Nat → List Int
  | 0 => []
  | k + 1 => encs C ks k ++ (C (ks k)).enc
theorem encs_len (C : Nat → Cel) (ks : Nat → Nat) (n : Nat) (ok : ∀ j, j < n → (C j).Ok) : ∀ m, (∀ j, j < m → ks j < n) → (encs C ks m).length ≤ 2097200 * m
  | 0, _ => by simp [encs]
  | m + 1, h => by
    have h1 := encs_len C ks n ok m (fun j hj => h j (by omega))
    have h2 := (C (ks m)).enc_len (ok _ (h m (by omega)))
    simp only [encs, List.length_append]
    omega

theorem Cel.enc_pos (c : Cel) : 0 < c.enc.length := by
  unfold Cel.enc
  split
  · simp
  · split
    · simp
    · split <;> simp [encText]
theorem encs_nil (C : Nat → Cel) (ks : Nat → Nat) (m : Nat) (h : encs C ks m = []) : m = 0 := by
  cases m with
  | zero => rfl
  | succ k =>
    have h1 := congrArg List.length h
    have h2 := (C (ks k)).enc_pos
    simp only [encs, List.length_append, List.length_nil] at h1
    omega
theorem OB.grew_below {w w' : World} {B : Nat} {v v' : Value} {bs : List Int} (h : OB w B v bs) (hg : Grew w v w' v') : Below B w w' := hg.kept.below h.bs (fun k hk => (h.ge hk).1)

/-- What the key is appended to. -/
structure EntryIn (w : World) (X R n : Nat) (nm : ByteArray) (pred : Value) (ac : Option Addr) (m cc : Nat) (ks : Nat → Nat) (C : Nat → Cel) (ao : Option Addr) (z c : Nat) (zs : List Int) : Prop where
  ix : Ix w X nm (.slice ac m cc) pred
  vals : Vals w R n C
  cols : Cols w ac m ks
  row : Row w ao z c zs

theorem EntryIn.below {w w' : World} {X R n : Nat} {nm : ByteArray} {pred : Value} {ac : Option Addr} {m cc : Nat} {ks : Nat → Nat} {C : Nat → Cel} {ao : Option Addr} {z c : Nat} {zs : List Int} (h : EntryIn w X R n nm pred ac m cc ks C ao z c zs) (hb : Below w.heap.size w w') : EntryIn w' X R n nm pred ac m cc ks C ao z c zs :=
  ⟨h.ix.kept (T := fun _ => False) (Kept.of_below hb) (fun h => h), h.vals.below hb, h.cols.below hb, h.row.below hb⟩

set_option maxHeartbeats 4000000 in
set_option maxRecDepth 100000 in
theorem entry_no (w : World) (X : Nat) (er : Value) (her : er = .nilIface ∨ ∃ G, er = .iface 92 (.pointer (some ⟨G, 0, none⟩))) (Q : World → Prop) (v1 : Value) (a : Option Addr) (n c : Nat) (hcov : Calls Ybaf.prog 15 #[.pointer (some ⟨X, 0, none⟩), .slice a n c] w fun e w1 => e = .returned (.tuple #[.bool false, er]) ∧ Q w1) :
    Calls Ybaf.prog 9 #[.pointer (some ⟨X, 0, none⟩), v1, .slice a n c] w fun e w' => e = .returned (.tuple #[.slice none 0 0, er]) ∧ Q w' := by
  have HC : Hid _ := hcov
  clear hcov
  rcases her with rfl | ⟨G, rfl⟩
  · go_enter Ybaf.func9, Ybaf.ntmps9
    go_wp2_with fail
    refine Calls.mono HC.out ?_
    rintro e w1 ⟨rfl, hQ⟩
    go_wp2
    exact bodyPost_ret (v := .tuple #[.slice none 0 0, .nilIface]) (by simp [results, Ybaf.results9]) rfl ⟨rfl, hQ⟩
  · go_enter Ybaf.func9, Ybaf.ntmps9
    go_wp2_with fail
    refine Calls.mono HC.out ?_
    rintro e w1 ⟨rfl, hQ⟩
    go_wp2
    exact bodyPost_ret (v := .tuple #[.slice none 0 0, .iface 92 (.pointer (some ⟨G, 0, none⟩))]) (by simp [results, Ybaf.results9]) rfl ⟨rfl, hQ⟩

set_option maxHeartbeats 4000000 in
set_option maxRecDepth 100000 in
theorem entry_yes (w : World) (X R n nc : Nat) (nm : ByteArray) (pred : Value) (ac : Option Addr) (m cc : Nat) (ks : Nat → Nat) (C : Nat → Cel) (ao : Option Addr) (z c : Nat) (zs : List Int) (Q : World → Prop) (hcov : Calls Ybaf.prog 15 #[.pointer (some ⟨X, 0, none⟩), .slice (some ⟨R, 0, none⟩) n nc] w fun e w1 => e = .returned (.tuple #[.bool true, .nilIface]) ∧ Q w1)
    (hQ : ∀ w1, Q w1 → EntryIn w1 X R n nm pred ac m cc ks C ao z c zs) (hks : ∀ j, j < m → ks j < n) (ok : ∀ j, j < n → (C j).Ok) (hn : n ≤ 65536) (hm : m ≤ 65536) (hz : z ≤ 1048576) :
    Calls Ybaf.prog 9 #[.pointer (some ⟨X, 0, none⟩), .slice ao z c, .slice (some ⟨R, 0, none⟩) n nc] w fun e w' => ∃ w1 v', Q w1 ∧ e = .returned (.tuple #[v', .nilIface]) ∧ OB w' w1.heap.size v' (encs C ks m ++ zs) ∧ (encs C ks m ++ zs = [] → v' = .slice none 0 0) ∧ Below w1.heap.size w1 w' := by
  have HC : Hid _ := hcov
  clear hcov
  go_enter Ybaf.func9, Ybaf.ntmps9
  go_wp2_with fail
  refine Calls.mono HC.out ?_
  rintro e w1 ⟨rfl, hQ1⟩
  have hin := hQ w1 hQ1
  have x3 := hin.ix.cols
  have QQ : Hid _ := hQ1
  clear hQ1 hQ HC
  go_wp2
  go_loopw [10, 31] (fun v0 v31 wr => ∃ k : Nat, k ≤ m ∧ v31 = .int .i64 (k : Int) ∧ OB wr w1.heap.size v0 (encs C ks k) ∧ Below w1.heap.size w1 wr ∧ (k = 0 → v0 = .slice none 0 0)) (fun _ v31 _ => m - (intOf v31).toNat)
  case atStart => exact ⟨0, Nat.zero_le _, rfl, OB.nil _ _ (Nat.le_refl _), Below.refl _ _, fun _ => rfl⟩
  case round =>
    obtain ⟨k, hk, rfl, hO, hB, h0⟩ := hrel
    have hir := hin.below hB
    have HI : Hid _ := hin
    have H0 : Hid _ := h0
    clear hin h0 x3
    have hle := encs_len C ks n ok k (fun j hj => hks j (by omega))
    rcases Nat.lt_or_ge k m with hlt | hge
    · obtain ⟨b, rfl, hc⟩ := hir.cols.spot (by omega)
      have hck := hc k hlt
      have hkn := hks k hlt
      have hkni : ((ks k : Nat) : Int) < (n : Int) := by omega
      have hki : (k : Int) < (m : Int) := by omega
      have v0 := hir.vals.c0 _ hkn
      have v1 := hir.vals.c1 _ hkn
      have v2 := hir.vals.c2 _ hkn
      have v3 := hir.vals.c3 _ hkn
      have OK := ok _ hkn
      clear hc hir
      go_wp2_with fail
      refine (key_any wr w1.heap.size _ (encs C ks k) (C (ks k)) OK hO (by omega)).mono ?_
      rintro e w2 ⟨v', rfl, hO2, hG2⟩
      have hB2 := hB.trans ((hO.grew_below hG2).mono (Nat.le_refl _))
      clear hck v0 v1 v2 v3 hG2
      go_wp2
      exact ⟨⟨k + 1, hlt, by simp, hO2, hB2, fun h => by omega⟩, by simp [intOf]; omega⟩
    · obtain rfl : k = m := by omega
      obtain ⟨i0, hi, hz0, hz1, hz2⟩ := info_parts Ybaf.info5
      have hrow := hir.row
      clear hir
      cases ao with
      | none =>
        obtain ⟨rfl, rfl⟩ := hrow.nil rfl
        obtain rfl : zs = [] := List.eq_nil_of_length_eq_zero hrow.len
        clear hrow
        go_wp2_with (at_builtin; refine wpList_append_own_none rfl _ _ 23 rfl w1.heap.size 5 i0 1 Ybaf.underlying23 hi _ _ _ rfl hO.own rfl ?_)
        go_wp2
        refine bodyPost_ret (v := .tuple #[_, .nilIface]) (by simp [results, Ybaf.results9]; rfl) rfl ⟨w1, _, QQ.out, rfl, by simpa using hO, fun h => ?_, hB⟩
        exact H0.out (encs_nil C ks k (by simpa using h))
      | some a =>
        have hx := hrow.len
        have A : Hid (∀ i, i < z → wr.cell? (a.add i) = some (.int .u8 (zs.getD i 0))) := by
          intro i hin
          obtain ⟨b, off, e, hc⟩ := hrow.spot (by omega)
          obtain rfl := Option.some.inj e
          rw [Addr.add_lit]
          exact hc i hin
        clear hrow
        go_wp2_with (at_builtin; refine wpList_append_own _ rfl _ _ 23 rfl w1.heap.size 5 i0 (.int .u8 0) 1 1 Ybaf.underlying23 hi hz0 hz1 hz2 rfl (by decide) _ _ _ rfl hO.own a z c (cellsB zs) rfl ?qc1 ?qc2 ?qc3 ?qc4 ?qc5 ?qc6 ?_)
        case qc1 => simp [cellsB]; omega
        case qc2 =>
          intro j u hj
          have hjn : j < z := by
            have := (List.getElem?_eq_some_iff.1 hj).1
            simp [cellsB] at this
            omega
          rw [A.out j hjn]
          have e : (cellsB zs)[j]? = some (Value.int .u8 (zs.getD j 0)) := by simp [cellsB, List.getD, List.getElem?_eq_getElem (show j < zs.length by omega)]
          rw [e] at hj
          exact hj
        case qc3 => intro u hu; obtain ⟨x, _, rfl⟩ := List.mem_map.1 hu; rfl
        case qc4 => unfold maxLen; omega
        case qc5 => omega
        case qc6 => exact hO.bs
        intro v' w2 hown hgrow hnil
        have hB2 := hB.grown hgrow hO.bs (fun k hk => (hO.ge hk).1)
        have OW : Hid _ := hown
        have NI : Hid _ := hnil
        clear hown hgrow hnil
        go_wp2
        refine bodyPost_ret (v := .tuple #[_, .nilIface]) (by simp [results, Ybaf.results9]; rfl) rfl ⟨w1, _, QQ.out, rfl, ⟨?_, hB2.size⟩, fun h => ?_, hB2⟩
        · have := OW.out
          rw [cellsB_append, List.length_append, hx]
          exact this
        · have h1 := congrArg List.length h
          simp only [List.length_append, List.length_nil] at h1
          have h2 : (encs C ks k) = [] := List.eq_nil_of_length_eq_zero (by omega)
          exact NI.out.2 ⟨H0.out (encs_nil C ks k h2), by omega⟩
end Go.Proofs.YbulkdngeFmt
