/-
  Seat b5708a: what is known of byte slices in a world; the small callees' contracts (clone, eq, bytes.Equal).
-/
import Derived.Test.YbulkdneoRows
import Derived.WalkKit
import Derived.WalkSpells
import Derived.WalkLawsBesides
import Derived.Laws.CopyOwn
import Derived.Laws.BytesArg
import Derived.Deep.QuietTactic
import Derived.BigQuiet
import Derived.Deep.OwnRows
import Derived.Lib.SliceRun
import Derived.Deep.Cut
namespace Go.Proofs.Ybulkdneo
open Go.RowKit

/-- A byte slice '.slice ao n c' of the world w whose bytes are zs. -/
structure Row (w : World) (ao : Option Addr) (n c : Nat) (zs : List Int) : Prop where
  len : zs.length = n
  cap : n ≤ c
  nil : ao = none → n = 0 ∧ c = 0
  wf : ∀ x ∈ zs, 0 ≤ x ∧ x ≤ 255
  spot : 0 < n → ∃ b off, ao = some ⟨b, off, none⟩ ∧ ∀ i, i < n → w.cell? ⟨b, off + i, none⟩ = some (.int .u8 (zs.getD i 0))

theorem Row.keep {w w' : World} {ao : Option Addr} {n c : Nat} {zs : List Int} (h : Row w ao n c zs) (hk : ∀ p v, w.cell? p = some v → w'.cell? p = some v) : Row w' ao n c zs :=
  ⟨h.len, h.cap, h.nil, h.wf, fun hn => by
    obtain ⟨b, off, e, hc⟩ := h.spot hn
    exact ⟨b, off, e, fun i hi => hk _ _ (hc i hi)⟩⟩

theorem cell_lt {w : World} {p : Addr} {v : Value} (h : w.cell? p = some v) : p.block < w.heap.size := by
  rcases Nat.lt_or_ge p.block w.heap.size with h1 | h1
  · exact h1
  · exfalso
    have : w.heap[p.block]? = none := by simp [h1]
    simp [World.cell?, this] at h

theorem Row.below {w w' : World} {ao : Option Addr} {n c : Nat} {zs : List Int} (h : Row w ao n c zs) (hb : Below w.heap.size w w') : Row w' ao n c zs :=
  h.keep fun _ _ hv => (hb.cell (cell_lt hv)).trans hv

theorem Row.drewN {w : World} {ao : Option Addr} {n c : Nat} {zs : List Int} (h : Row w ao n c zs) (k : Nat) : Row (w.drewN k) ao n c zs :=
  h.keep fun _ _ hv => by simpa using hv

theorem run_convert_row {P : Program} {w : World} {ao : Option Addr} {n c : Nat} {zs : List Int} (h : Row w ao n c zs) (src e dst : TypeId) (hs : P.underlying src = some (.slice e)) (he : P.underlying e = some (.int .u8)) (hd : P.underlying dst = some .string) :
    (convert src dst (.slice ao n c)).run P w = .ok (.string (strOfNums zs)) w := by
  have hl := h.len
  rcases Nat.eq_zero_or_pos n with h0 | h0
  · subst h0
    obtain rfl : zs = [] := List.eq_nil_of_length_eq_zero hl
    cases ao with
    | none =>
      rw [run_convert_bytes_nil w src e hs he _ _ dst hd]
      rfl
    | some a =>
      have hlc := run_loadCells_list (P := P) w a [] (fun j v hj => by simp at hj)
      rw [run_convert_bytes_string w src dst e _ 0 c hs he hd, run_bytesToString w _ 0 c [] (by simpa using hlc), foldl_push_bytes]
      rfl
  · obtain ⟨b, off, rfl, hc⟩ := h.spot h0
    exact run_convert_bytes_arg w src e hs he b off n c zs hl hc dst hd

theorem strOfNums_inj {xs ys : List Int} (hx : ∀ x ∈ xs, 0 ≤ x ∧ x ≤ 255) (hy : ∀ x ∈ ys, 0 ≤ x ∧ x ≤ 255) (h : strOfNums xs = strOfNums ys) : xs = ys := by
  have h' : (strOfNums xs).data.toList = (strOfNums ys).data.toList := by rw [h]
  rw [strOfNums_data, strOfNums_data] at h'
  clear h
  induction xs generalizing ys with
  | nil => cases ys with
    | nil => rfl
    | cons y ys => simp at h'
  | cons x xs ih => cases ys with
    | nil => simp at h'
    | cons y ys =>
      simp only [List.map_cons, List.cons.injEq] at h'
      obtain ⟨h1, h2⟩ := h'
      have a := hx x (by simp)
      have b := hy y (by simp)
      have h1' := congrArg UInt8.toNat h1
      simp at h1'
      rw [ih (fun z hz => hx z (by simp [hz])) (fun z hz => hy z (by simp [hz])) h2]
      congr 1
      omega

theorem Yba.info5 : (Yba.prog.info? 5).map (fun i => (i.zero, i.size, i.bytes)) = some (some (.int .u8 0), 1, 1) := by kernel_rfl
theorem Yba.own : ownKnob Yba.prog.godebug = none := by kernel_rfl
theorem Yba.laidOut : laidOutB Yba.prog = true := by kernel_rfl
theorem Yba.size5 : (Yba.prog.info? 5).map (·.size) = some 1 := by kernel_rfl

/-- Two lists of bytes, compared. -/
def eqB (xs ys : List Int) : Bool := decide (xs = ys)

theorem str_beq {xs ys : List Int} {s0 s1 : ByteArray} (h0 : s0 = strOfNums xs) (h1 : s1 = strOfNums ys) (hx : ∀ x ∈ xs, 0 ≤ x ∧ x ≤ 255) (hy : ∀ x ∈ ys, 0 ≤ x ∧ x ≤ 255) : (s0.toList == s1.toList) = eqB xs ys := by
  subst h0; subst h1
  unfold eqB
  by_cases h : xs = ys
  · subst h; simp
  · rw [decide_eq_false h, beq_eq_false_iff_ne]
    intro h'
    rw [ByteArray.toList_eq, ByteArray.toList_eq] at h'
    apply h
    apply strOfNums_inj hx hy
    have h2 : (strOfNums xs).data = (strOfNums ys).data := Array.toList_inj.1 h'
    exact congrArg ByteArray.mk h2

theorem ret_bool {a b : Bool} (h : a = b) : Ending.returned (.bool a) = .returned (.bool b) := by rw [h]

theorem take_step {xs ys : List Int} {n k : Nat} (hx : xs.length = n) (hy : ys.length = n) (hk : k < n) (h : xs.take k = ys.take k) (e : xs.getD k 0 = ys.getD k 0) : xs.take (k + 1) = ys.take (k + 1) := by
  have kx : k < xs.length := by omega
  have ky : k < ys.length := by omega
  rw [List.take_succ_eq_append_getElem kx, List.take_succ_eq_append_getElem ky, h]
  simp [List.getD, kx, ky] at e
  rw [e]

theorem eqB_no {xs ys : List Int} {n k : Nat} (_hx : xs.length = n) (_hy : ys.length = n) (_hk : k < n) (e : ¬ xs.getD k 0 = ys.getD k 0) : false = eqB xs ys := by
  unfold eqB
  rw [decide_eq_false]
  intro h
  exact e (by rw [h])

set_option maxHeartbeats 400000 in
theorem equal_any (w : World) (a0 a1 : Option Addr) (n0 c0 n1 c1 : Nat) (xs ys : List Int) (h0 : Row w a0 n0 c0 xs) (h1 : Row w a1 n1 c1 ys) :
    Calls Yba.prog 15 #[.slice a0 n0 c0, .slice a1 n1 c1] w fun e w' => e = .returned (.bool (eqB xs ys)) ∧ w' = w := by
  have k0 := run_convert_row (P := Yba.prog) h0 23 5 9 Yba.underlying23 Yba.underlying5 Yba.underlying9
  have k1 := run_convert_row (P := Yba.prog) h1 23 5 9 Yba.underlying23 Yba.underlying5 Yba.underlying9
  have hw0 : Hid (∀ x ∈ xs, 0 ≤ x ∧ x ≤ 255) := h0.wf
  have hw1 : Hid (∀ x ∈ ys, 0 ≤ x ∧ x ≤ 255) := h1.wf
  clear h0 h1
  obtain ⟨s0, hs0⟩ : ∃ s, s = strOfNums xs := ⟨_, rfl⟩
  obtain ⟨s1, hs1⟩ : ∃ s, s = strOfNums ys := ⟨_, rfl⟩
  rw [← hs0] at k0
  rw [← hs1] at k1
  have H0 : Hid (s0 = strOfNums xs) := hs0
  have H1 : Hid (s1 = strOfNums ys) := hs1
  clear hs0 hs1
  go_enter Yba.func15, Yba.ntmps15
  go_wp2
  go_ret
  refine ⟨?_, rfl⟩
  show Ending.returned (.bool (s0.toList == s1.toList)) = _
  rw [str_beq H0.out H1.out hw0.out hw1.out]

set_option maxHeartbeats 400000 in
theorem eqc_any (w : World) (a0 a1 : Option Addr) (n0 c0 n1 c1 : Nat) (xs ys : List Int) (h0 : Row w a0 n0 c0 xs) (h1 : Row w a1 n1 c1 ys) (hm0 : n0 ≤ 281474976710656) (hm1 : n1 ≤ 281474976710656) :
    Calls Yba.prog 13 #[.slice a0 n0 c0, .slice a1 n1 c1] w fun e w' => e = .returned (.bool (eqB xs ys)) ∧ ∃ k, w' = w.drewN k := by
  have hl0 : Hid (xs.length = n0) := h0.len
  have hl1 : Hid (ys.length = n1) := h1.len
  by_cases hn : n0 = n1
  · subst hn
    go_enter Yba.func13, Yba.ntmps13
    go_wp2
    go_loopw [5] (fun i wr => ∃ k : Nat, k ≤ n0 ∧ i = .int .i64 k ∧ Hid (xs.take k = ys.take k) ∧ ∃ m, wr = w.drewN m) (fun i _ => n0 - (intOf i).toNat)
    case atStart => exact ⟨0, Nat.zero_le _, rfl, rfl, 0, rfl⟩
    case round =>
      obtain ⟨k, hk, rfl, htk, m, rfl⟩ := hrel
      by_cases hlt : k < n0
      · obtain ⟨b0, o0, rfl, g0⟩ := h0.spot (by omega)
        obtain ⟨b1, o1, rfl, g1⟩ := h1.spot (by omega)
        have q0 := g0 k hlt
        have q1 := g1 k hlt
        obtain ⟨x, hx⟩ : ∃ x, x = xs.getD k 0 := ⟨_, rfl⟩
        obtain ⟨y, hy⟩ : ∃ y, y = ys.getD k 0 := ⟨_, rfl⟩
        rw [← hx] at q0
        rw [← hy] at q1
        have HX : Hid (x = xs.getD k 0) := hx
        have HY : Hid (y = ys.getD k 0) := hy
        clear hx hy g0 g1 h0 h1
        by_cases hxy : x = y
        · subst hxy
          have hne : (x != x) = false := by simp
          go_wp2
          go_quiet (fail)
          go_wp2
          go_roundw
          case rel => exact ⟨k + 1, by omega, by go_num, take_step hl0.out hl1.out hlt htk.out (HX.out.symm.trans HY.out), _, rfl⟩
          case measure => simp [intOf]; omega
        · have hne : (x != y) = true := by simp [hxy]
          go_wp2
          go_quiet (fail)
          go_wp2
          go_ret
          exact ⟨ret_bool (eqB_no hl0.out hl1.out hlt (fun h => hxy (HX.out.trans (h.trans HY.out.symm)))), _, World.drewN_drewN _ _ _⟩
      · go_wp2
        go_ret
        have e1 : xs = ys := by
          have := htk.out
          rwa [List.take_of_length_le (by have := hl0.out; omega), List.take_of_length_le (by have := hl1.out; omega)] at this
        exact ⟨ret_bool (by simp [eqB, e1]), _, rfl⟩
  · have hne : ((n0 : Int) != (n1 : Int)) = true := by simp; omega
    go_enter Yba.func13, Yba.ntmps13
    go_wp2
    go_ret
    exact ⟨ret_bool (by unfold eqB; rw [decide_eq_false]; intro h; rw [h, hl1.out] at hl0; have := hl0.out; omega), 0, rfl⟩

set_option maxHeartbeats 400000 in
theorem eqa_any (w : World) (a0 a1 : Option Addr) (n0 c0 n1 c1 : Nat) (xs ys : List Int) (h0 : Row w a0 n0 c0 xs) (h1 : Row w a1 n1 c1 ys) (hm0 : n0 ≤ 281474976710656) (hm1 : n1 ≤ 281474976710656) :
    Calls Yba.prog 7 #[.slice a0 n0 c0, .slice a1 n1 c1] w fun e w' => e = .returned (.bool (eqB xs ys)) ∧ ∃ k, w' = w.drewN k := by
  have hl0 : Hid (xs.length = n0) := h0.len
  have hl1 : Hid (ys.length = n1) := h1.len
  by_cases hn : n0 = n1
  · subst hn
    go_enter Yba.func7, Yba.ntmps7
    go_wp2
    go_loopw [5] (fun i wr => ∃ k : Nat, k ≤ n0 ∧ i = .int .i64 k ∧ Hid (xs.take k = ys.take k) ∧ ∃ m, wr = w.drewN m) (fun i _ => n0 - (intOf i).toNat)
    case atStart => exact ⟨0, Nat.zero_le _, rfl, rfl, 0, rfl⟩
    case round =>
      obtain ⟨k, hk, rfl, htk, m, rfl⟩ := hrel
      by_cases hlt : k < n0
      · obtain ⟨b0, o0, rfl, g0⟩ := h0.spot (by omega)
        obtain ⟨b1, o1, rfl, g1⟩ := h1.spot (by omega)
        have q0 := g0 k hlt
        have q1 := g1 k hlt
        obtain ⟨x, hx⟩ : ∃ x, x = xs.getD k 0 := ⟨_, rfl⟩
        obtain ⟨y, hy⟩ : ∃ y, y = ys.getD k 0 := ⟨_, rfl⟩
        rw [← hx] at q0
        rw [← hy] at q1
        have HX : Hid (x = xs.getD k 0) := hx
        have HY : Hid (y = ys.getD k 0) := hy
        clear hx hy g0 g1 h0 h1
        by_cases hxy : x = y
        · subst hxy
          have hne : (x != x) = false := by simp
          go_wp2
          go_quiet (fail)
          go_wp2
          go_roundw
          case rel => exact ⟨k + 1, by omega, by go_num, take_step hl0.out hl1.out hlt htk.out (HX.out.symm.trans HY.out), _, rfl⟩
          case measure => simp [intOf]; omega
        · have hne : (x != y) = true := by simp [hxy]
          go_wp2
          go_quiet (fail)
          go_wp2
          go_ret
          exact ⟨ret_bool (eqB_no hl0.out hl1.out hlt (fun h => hxy (HX.out.trans (h.trans HY.out.symm)))), _, World.drewN_drewN _ _ _⟩
      · go_wp2
        go_ret
        have e1 : xs = ys := by
          have := htk.out
          rwa [List.take_of_length_le (by have := hl0.out; omega), List.take_of_length_le (by have := hl1.out; omega)] at this
        exact ⟨ret_bool (by simp [eqB, e1]), _, rfl⟩
  · have hne : ((n0 : Int) != (n1 : Int)) = true := by simp; omega
    go_enter Yba.func7, Yba.ntmps7
    go_wp2
    go_ret
    exact ⟨ret_bool (by unfold eqB; rw [decide_eq_false]; intro h; rw [h, hl1.out] at hl0; have := hl0.out; omega), 0, rfl⟩

theorem splice_all {cur cs : List Value} (h : cs.length = cur.length) : splice cur 0 cs = cs := by
  simp [splice]; omega

/-- A row of bytes at a block's head. -/
theorem row_of_block {w : World} {g n : Nat} {zs : List Int} (hl : zs.length = n) (hw : ∀ x ∈ zs, 0 ≤ x ∧ x ≤ 255) (h : w.heap[g]? = some (.cells (zs.map (Value.int .u8)).toArray 5 (0, 0))) : Row w (some ⟨g, 0, none⟩) n n zs := by
  refine ⟨hl, Nat.le_refl _, fun h => by simp at h, hw, fun _ => ⟨g, 0, rfl, fun i hi => ?_⟩⟩
  have hi' : i < zs.length := by omega
  simp [World.cell?, h, List.getD, hi']

set_option maxHeartbeats 400000 in
theorem clonec_any (w : World) (ao : Option Addr) (n c : Nat) (zs : List Int) (h : Row w ao n c zs) (hm : n ≤ 281474976710656) :
    Calls Yba.prog 11 #[.slice ao n c] w fun e w' => ∃ ao' c', e = .returned (.slice ao' n c') ∧ Row w' ao' n c' zs ∧ ao'.isNone = ao.isNone ∧ Below w.heap.size w w' ∧ ∀ a, ao' = some a → w.heap.size ≤ a.block := by
  have hnil := fun wx => Lib.run_eql_slice_nil (P := Yba.prog) wx 23 5 ao n c 0 0 Yba.underlying23
  have hmk := run_make_row' (P := Yba.prog) 23 5 (.int .u8 0) 1 Yba.underlying23 Yba.info5 rfl .i64 .i64 n (by omega) (by omega)
  have hl : Hid (zs.length = n) := h.len
  cases ha : ao with
  | none =>
    subst ha
    obtain ⟨rfl, rfl⟩ := h.nil rfl
    go_enter Yba.func11, Yba.ntmps11
    go_wp2
    go_ret
    exact ⟨none, 0, rfl, h, rfl, Below.refl _ _, fun a h => by simp at h⟩
  | some ad =>
    subst ha
    go_enter Yba.func11, Yba.ntmps11
    go_upto_region 4 with fail
    clear hmk hnil
    go_wp2_with (refine wpList_copy_splice rfl (.tmp 9) (.tmp 10) 23 23 rfl 5 Yba.underlying23 Yba.size5 _ _ n n n c rfl rfl w.heap.size 0 (madeCells #[.int .u8 0] n).toList 5 ?_ (zs.map (Value.int .u8)) ?_ ?_ ?_ ?_ w.heap.size w ?_ ?_ ?_)
    · simpa using Deep.blk_alloc_new w _
    · simpa using hl.out
    · intro hp j a hj
      obtain ⟨b, off, e, hc⟩ := h.spot (by have := hl.out; omega)
      obtain rfl := Option.some.inj e
      have hj' : j < n := by
        have := (List.getElem?_eq_some_iff.1 hj).1
        have := hl.out
        omega
      have hcj := hc j hj'
      rw [Addr.add_lit, World.cell?_alloc_lt _ _ _ (by simpa using cell_lt hcj), hcj]
      simp [List.getD, hj]
    · have := hl.out
      simp [size_madeCells]; omega
    · exact ints_oneCell _ _
    · exact (Below.refl _ _).alloc (Nat.le_refl _) _
    · exact Nat.le_refl _
    · intro w' hg hb
      clear hm
      go_wp2
      go_ret
      have hg' := hg.out
      rw [splice_all (by have := hl.out; simp [size_madeCells]; omega)] at hg'
      exact ⟨some ⟨w.heap.size, 0, none⟩, n, rfl, row_of_block hl.out h.wf hg', rfl, hb, fun a ha => by obtain rfl := Option.some.inj ha; exact Nat.le_refl _⟩

set_option maxHeartbeats 400000 in
theorem clonea_any (w : World) (ao : Option Addr) (n c : Nat) (zs : List Int) (h : Row w ao n c zs) (hm : n ≤ 281474976710656) :
    Calls Yba.prog 5 #[.slice ao n c] w fun e w' => ∃ ao' c', e = .returned (.slice ao' n c') ∧ Row w' ao' n c' zs ∧ ao'.isNone = ao.isNone ∧ Below w.heap.size w w' ∧ ∀ a, ao' = some a → w.heap.size ≤ a.block := by
  have hnil := fun wx => Lib.run_eql_slice_nil (P := Yba.prog) wx 23 5 ao n c 0 0 Yba.underlying23
  have hmk := run_make_row' (P := Yba.prog) 23 5 (.int .u8 0) 1 Yba.underlying23 Yba.info5 rfl .i64 .i64 n (by omega) (by omega)
  have hl : Hid (zs.length = n) := h.len
  cases ha : ao with
  | none =>
    subst ha
    obtain ⟨rfl, rfl⟩ := h.nil rfl
    go_enter Yba.func5, Yba.ntmps5
    go_wp2
    go_ret
    exact ⟨none, 0, rfl, h, rfl, Below.refl _ _, fun a h => by simp at h⟩
  | some ad =>
    subst ha
    go_enter Yba.func5, Yba.ntmps5
    go_upto_region 4 with fail
    clear hmk hnil
    go_wp2_with (refine wpList_copy_splice rfl (.tmp 9) (.tmp 10) 23 23 rfl 5 Yba.underlying23 Yba.size5 _ _ n n n c rfl rfl w.heap.size 0 (madeCells #[.int .u8 0] n).toList 5 ?_ (zs.map (Value.int .u8)) ?_ ?_ ?_ ?_ w.heap.size w ?_ ?_ ?_)
    · simpa using Deep.blk_alloc_new w _
    · simpa using hl.out
    · intro hp j a hj
      obtain ⟨b, off, e, hc⟩ := h.spot (by have := hl.out; omega)
      obtain rfl := Option.some.inj e
      have hj' : j < n := by
        have := (List.getElem?_eq_some_iff.1 hj).1
        have := hl.out
        omega
      have hcj := hc j hj'
      rw [Addr.add_lit, World.cell?_alloc_lt _ _ _ (by simpa using cell_lt hcj), hcj]
      simp [List.getD, hj]
    · have := hl.out
      simp [size_madeCells]; omega
    · exact ints_oneCell _ _
    · exact (Below.refl _ _).alloc (Nat.le_refl _) _
    · exact Nat.le_refl _
    · intro w' hg hb
      clear hm
      go_wp2
      go_ret
      have hg' := hg.out
      rw [splice_all (by have := hl.out; simp [size_madeCells]; omega)] at hg'
      exact ⟨some ⟨w.heap.size, 0, none⟩, n, rfl, row_of_block hl.out h.wf hg', rfl, hb, fun a ha => by obtain rfl := Option.some.inj ha; exact Nat.le_refl _⟩

end Go.Proofs.Ybulkdneo
