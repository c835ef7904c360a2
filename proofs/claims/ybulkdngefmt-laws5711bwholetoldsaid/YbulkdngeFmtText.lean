/-
  Seat b5711aF: AppendKey (16) and zzs5711benc (12) at a TEXT.
-/
import Derived.Test.YbulkdngeFmtReal
namespace Go.Proofs.YbulkdngeFmt
open Go.RowKit
set_option linter.unusedVariables false

def byteAt (s : ByteArray) (k : Nat) : Int := if h : k < s.size then (s[k].toNat : Int) else 0
def escB (b : Int) : List Int := if b = 0 then [0, 255] else [b]
def escTo (s : ByteArray) : Nat → List Int
  | 0 => []
  | k + 1 => escTo s k ++ escB (byteAt s k)
def encText (s : ByteArray) : List Int := [5] ++ (escTo s s.size ++ [0, 1])
theorem byteAt_eq (s : ByteArray) (k : Nat) (h : k < s.size) : byteAt s k = (s[k].toNat : Int) := by simp [byteAt, h]
theorem escB_len (b : Int) : (escB b).length ≤ 2 := by unfold escB; split <;> simp
theorem escTo_len (s : ByteArray) (k : Nat) : (escTo s k).length ≤ 2 * k := by
  induction k with
  | zero => simp [escTo]
  | succ k ih => have := escB_len (byteAt s k); simp only [escTo, List.length_append]; omega
theorem escTo_zero (s : ByteArray) (k : Nat) (h : byteAt s k = 0) : escTo s (k + 1) = escTo s k ++ [0, 255] := by simp [escTo, h, escB]
theorem escTo_one (s : ByteArray) (k : Nat) (h : ¬ byteAt s k = 0) : escTo s (k + 1) = escTo s k ++ [byteAt s k] := by simp [escTo, h, escB]

theorem Grew.away {w w' : World} {v v' : Value} {N : Nat} (h : Grew w v w' v') (hn : v.ownBlock ≠ some N) (hN : N < w.heap.size) : v'.ownBlock ≠ some N := by
  rcases h.at_ with e | ⟨k, e, hk⟩
  · rw [e]; exact hn
  · rw [e]; intro he; obtain rfl := Option.some.inj he; omega

set_option maxHeartbeats 4000000 in
theorem key_text (w : World) (B : Nat) (v : Value) (bs : List Int) (i : Int) (fb : Nat) (s : ByteArray) (hs : s.size ≤ 1048576) (h : OB w B v bs) (hlen : bs.length ≤ 70368744177000) :
    Calls Ybaf.prog 16 #[v, .agg #[.int .u8 3, .int .i64 i, .float .f64 fb, .string s]] w fun e w' => ∃ v', e = .returned v' ∧ OB w' B v' (bs ++ encText s) ∧ Grew w v w' v' := by
  have hb1 := (Below.refl w.heap.size w).alloc (Nat.le_refl _) (Obj.cells #[.int .u8 3, .int .i64 i, .float .f64 fb, .string s] 30)
  have hb2 := hb1.alloc hb1.size (Obj.cells #[.int .u8 5] 5)
  have box := (Box.alloc w 3 i fb s 30).below ((Below.refl _ _).alloc (Nat.le_refl _) (Obj.cells #[.int .u8 5] 5))
  have NW : Hid _ := news1 (w.alloc (Obj.cells #[.int .u8 3, .int .i64 i, .float .f64 fb, .string s] 30)) (w.heap.size + 1) (by simp) 5
  have HN : Hid _ := h.not_new
  go_enter Ybaf.func16, Ybaf.ntmps16
  go_wp2_with (at_builtin; refine wpList_app _ rfl _ _ rfl B v bs [5] rfl (h.below hb2) ⟨w.heap.size + 1, 0, none⟩ 1 1 rfl rfl NW.out (by omega) (by omega) ?_; intro v2 w3 hO2 hG2; have bx := box.grew hG2 HN.out; have hne2 : Hid _ := hG2.away HN.out (by simp; omega); have hG1 := (Grew.of_below hb2).trans hG2; clear hG2 hb2 hb1 box NW HN)
  go_loopw [0, 7] (fun v0 v7 wr => ∃ k : Nat, k ≤ s.size ∧ v7 = .int .i64 (k : Int) ∧ OB wr B v0 (bs ++ [5] ++ escTo s k) ∧ Grew w v wr v0 ∧ Box wr w.heap.size 3 i fb s ∧ v0.ownBlock ≠ some w.heap.size) (fun _ v7 _ => (s.size : Int).toNat - (intOf v7).toNat)
  case atStart => exact ⟨0, Nat.zero_le _, rfl, by simpa [escTo] using hO2, hG1, bx, hne2.out⟩
  case round =>
    obtain ⟨k, hk, rfl, hO, hG, hbx, hne⟩ := hrel
    have x3 := hbx.c3
    have hN := cell_lt hbx.c0
    have hle := escTo_len s k
    have hll : (bs ++ [5] ++ escTo s k).length = bs.length + 1 + (escTo s k).length := by simp; omega
    rcases Nat.lt_or_ge k s.size with hlt | hge
    · have hbe := byteAt_eq s k hlt
      by_cases hz : byteAt s k = 0
      · have hz1 : ((s[k].toNat : Int) == 0) = true := by rw [← hbe]; simp [hz]
        have hb1 := (Below.refl wr.heap.size wr).alloc (Nat.le_refl _) (Obj.cells #[.int .u8 0, .int .u8 255] 5)
        have NW : Hid _ := news2 wr wr.heap.size rfl 0 255
        have HZ : Hid _ := escTo_zero s k hz
        clear hz
        go_wp2_with (at_builtin; refine wpList_app _ rfl _ _ rfl B _ _ [0, 255] rfl (hO.below hb1) ⟨wr.heap.size, 0, none⟩ 2 2 rfl rfl NW.out (by omega) (by omega) ?_; intro v5 w5 hO5 hG5)
        go_wp2
        refine ⟨⟨k + 1, hlt, by simp, ?_, hG.trans ((Grew.of_below hb1).trans hG5), (hbx.below hb1).grew hG5 hne, hG5.away hne (Nat.lt_of_lt_of_le hN hb1.size)⟩, by simp [intOf]; omega⟩
        rw [HZ.out, ← List.append_assoc]
        exact hO5
      · have hz1 : ((s[k].toNat : Int) == 0) = false := by rw [← hbe]; simp [hz]
        have hb1 := (Below.refl wr.heap.size wr).alloc (Nat.le_refl _) (Obj.cells #[.int .u8 (s[k].toNat : Int)] 5)
        have NW : Hid _ := news1 wr wr.heap.size rfl (s[k].toNat : Int)
        have HZ : Hid _ := escTo_one s k hz
        have HB : Hid _ := hbe
        clear hz hbe
        go_wp2_with (at_builtin; refine wpList_app _ rfl _ _ rfl B _ _ [(s[k].toNat : Int)] rfl (hO.below hb1) ⟨wr.heap.size, 0, none⟩ 1 1 rfl rfl NW.out (by omega) (by omega) ?_; intro v5 w5 hO5 hG5)
        go_wp2
        refine ⟨⟨k + 1, hlt, by simp, ?_, hG.trans ((Grew.of_below hb1).trans hG5), (hbx.below hb1).grew hG5 hne, hG5.away hne (Nat.lt_of_lt_of_le hN hb1.size)⟩, by simp [intOf]; omega⟩
        rw [HZ.out, HB.out, ← List.append_assoc]
        exact hO5
    · have hke : k = s.size := by omega
      subst hke
      have hb1 := (Below.refl wr.heap.size wr).alloc (Nat.le_refl _) (Obj.cells #[.int .u8 0, .int .u8 1] 5)
      have NW : Hid _ := news2 wr wr.heap.size rfl 0 1
      go_wp2_with (at_builtin; refine wpList_app _ rfl _ _ rfl B _ _ [0, 1] rfl (hO.below hb1) ⟨wr.heap.size, 0, none⟩ 2 2 rfl rfl NW.out (by omega) (by omega) ?_; intro v5 w5 hO5 hG5)
      go_wp2
      go_ret
      refine ⟨_, rfl, ?_, hG.trans ((Grew.of_below hb1).trans hG5)⟩
      have e : bs ++ encText s = bs ++ [5] ++ escTo s s.size ++ [0, 1] := by simp [encText]
      rw [e]
      exact hO5

set_option maxHeartbeats 4000000 in
theorem enc_text (w : World) (B : Nat) (v : Value) (bs : List Int) (q i : Int) (fb : Nat) (s : ByteArray) (hq : 0 ≤ q ∧ q ≤ 255 ∧ q % 4 = 3) (hs : s.size ≤ 1048576) (h : OB w B v bs) (hlen : bs.length ≤ 70368744177000) :
    Calls Ybaf.prog 12 #[v, .agg #[.int .u8 q, .int .i64 i, .float .f64 fb, .string s]] w fun e w' => ∃ v', e = .returned v' ∧ OB w' B v' (bs ++ encText s) ∧ Grew w v w' v' := by
  obtain ⟨hq0, hq1, hq2⟩ := hq
  have hb1 := (Below.refl w.heap.size w).alloc (Nat.le_refl _) (Obj.cells #[.int .u8 q, .int .i64 i, .float .f64 fb, .string s] 26)
  have hb2 := hb1.alloc hb1.size (Obj.cells #[.int .u8 5] 5)
  have box := (Box.alloc w q i fb s 26).below ((Below.refl _ _).alloc (Nat.le_refl _) (Obj.cells #[.int .u8 5] 5))
  have NW : Hid _ := news1 (w.alloc (Obj.cells #[.int .u8 q, .int .i64 i, .float .f64 fb, .string s] 26)) (w.heap.size + 1) (by simp) 5
  have HN : Hid _ := h.not_new
  go_enter Ybaf.func12, Ybaf.ntmps12
  go_wp2_with (at_builtin; refine wpList_app _ rfl _ _ rfl B v bs [5] rfl (h.below hb2) ⟨w.heap.size + 1, 0, none⟩ 1 1 rfl rfl NW.out (by omega) (by omega) ?_; intro v2 w3 hO2 hG2; have bx := box.grew hG2 HN.out; have hne2 : Hid _ := hG2.away HN.out (by simp; omega); have hG1 := (Grew.of_below hb2).trans hG2; clear hG2 hb2 hb1 box NW HN)
  go_loopw [0, 6] (fun v0 v7 wr => ∃ k : Nat, k ≤ s.size ∧ v7 = .int .i64 (k : Int) ∧ OB wr B v0 (bs ++ [5] ++ escTo s k) ∧ Grew w v wr v0 ∧ Box wr w.heap.size q i fb s ∧ v0.ownBlock ≠ some w.heap.size) (fun _ v7 _ => (s.size : Int).toNat - (intOf v7).toNat)
  case atStart => exact ⟨0, Nat.zero_le _, rfl, by simpa [escTo] using hO2, hG1, bx, hne2.out⟩
  case round =>
    obtain ⟨k, hk, rfl, hO, hG, hbx, hne⟩ := hrel
    have x3 := hbx.c3
    have hN := cell_lt hbx.c0
    have hle := escTo_len s k
    have hll : (bs ++ [5] ++ escTo s k).length = bs.length + 1 + (escTo s k).length := by simp; omega
    rcases Nat.lt_or_ge k s.size with hlt | hge
    · have hbe := byteAt_eq s k hlt
      by_cases hz : byteAt s k = 0
      · have hz1 : ((s[k].toNat : Int) == 0) = true := by rw [← hbe]; simp [hz]
        have hb1 := (Below.refl wr.heap.size wr).alloc (Nat.le_refl _) (Obj.cells #[.int .u8 0, .int .u8 255] 5)
        have NW : Hid _ := news2 wr wr.heap.size rfl 0 255
        have HZ : Hid _ := escTo_zero s k hz
        clear hz
        go_wp2_with (at_builtin; refine wpList_app _ rfl _ _ rfl B _ _ [0, 255] rfl (hO.below hb1) ⟨wr.heap.size, 0, none⟩ 2 2 rfl rfl NW.out (by omega) (by omega) ?_; intro v5 w5 hO5 hG5)
        go_wp2
        refine ⟨⟨k + 1, hlt, by simp, ?_, hG.trans ((Grew.of_below hb1).trans hG5), (hbx.below hb1).grew hG5 hne, hG5.away hne (Nat.lt_of_lt_of_le hN hb1.size)⟩, by simp [intOf]; omega⟩
        rw [HZ.out, ← List.append_assoc]
        exact hO5
      · have hz1 : ((s[k].toNat : Int) == 0) = false := by rw [← hbe]; simp [hz]
        have hb1 := (Below.refl wr.heap.size wr).alloc (Nat.le_refl _) (Obj.cells #[.int .u8 (s[k].toNat : Int)] 5)
        have NW : Hid _ := news1 wr wr.heap.size rfl (s[k].toNat : Int)
        have HZ : Hid _ := escTo_one s k hz
        have HB : Hid _ := hbe
        clear hz hbe
        go_wp2_with (at_builtin; refine wpList_app _ rfl _ _ rfl B _ _ [(s[k].toNat : Int)] rfl (hO.below hb1) ⟨wr.heap.size, 0, none⟩ 1 1 rfl rfl NW.out (by omega) (by omega) ?_; intro v5 w5 hO5 hG5)
        go_wp2
        refine ⟨⟨k + 1, hlt, by simp, ?_, hG.trans ((Grew.of_below hb1).trans hG5), (hbx.below hb1).grew hG5 hne, hG5.away hne (Nat.lt_of_lt_of_le hN hb1.size)⟩, by simp [intOf]; omega⟩
        rw [HZ.out, HB.out, ← List.append_assoc]
        exact hO5
    · have hke : k = s.size := by omega
      subst hke
      have hb1 := (Below.refl wr.heap.size wr).alloc (Nat.le_refl _) (Obj.cells #[.int .u8 0, .int .u8 1] 5)
      have NW : Hid _ := news2 wr wr.heap.size rfl 0 1
      go_wp2_with (at_builtin; refine wpList_app _ rfl _ _ rfl B _ _ [0, 1] rfl (hO.below hb1) ⟨wr.heap.size, 0, none⟩ 2 2 rfl rfl NW.out (by omega) (by omega) ?_; intro v5 w5 hO5 hG5)
      go_wp2
      go_ret
      refine ⟨_, rfl, ?_, hG.trans ((Grew.of_below hb1).trans hG5)⟩
      have e : bs ++ encText s = bs ++ [5] ++ escTo s s.size ++ [0, 1] := by simp [encText]
      rw [e]
      exact hO5

end Go.Proofs.YbulkdngeFmt
