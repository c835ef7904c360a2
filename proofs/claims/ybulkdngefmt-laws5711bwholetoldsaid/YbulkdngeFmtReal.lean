/-
  Seat b5711aF: AppendKey (16) and zzs5711benc (12) at a REAL.
-/
import Derived.Test.YbulkdngeFmtKey
import Derived.Test.YbulkdngeFmtBits
namespace Go.Proofs.YbulkdngeFmt
open Go.RowKit
set_option linter.unusedVariables false

theorem f64bits (fb : Nat) (w : World) : (callFunc 20 #[.float .f64 fb]).run Ybaf.prog w = .ok (.value (.int .u64 (fb : Int))) w := by kernel_rfl

/-- The key's bits of a float, from its own. -/
def realBits (fb : Nat) : Int := if fb % 9223372036854775808 = 0 then 9223372036854775808 else if 9223372036854775808 ≤ fb then 18446744073709551615 - (fb : Int) else (fb : Int) + 9223372036854775808

theorem wrap64 (x : Int) : IntKind.u64.wrap x = x % 18446744073709551616 := rfl
theorem realBits_lo (fb : Nat) (h : fb < 18446744073709551616) : 0 ≤ realBits fb := by
  unfold realBits
  split
  · omega
  · split <;> omega
theorem realBits_hi (fb : Nat) (h : fb < 18446744073709551616) : realBits fb < 18446744073709551616 := by
  unfold realBits
  split
  · omega
  · split <;> omega

set_option maxHeartbeats 4000000 in
theorem key_real_z (w : World) (B : Nat) (v : Value) (bs : List Int) (i : Int) (fb : Nat) (s : ByteArray) (hfb : fb < 18446744073709551616) (hz : fb % 9223372036854775808 = 0) (h : OB w B v bs) (hlen : bs.length ≤ 70368744177000) :
    Calls Ybaf.prog 16 #[v, .agg #[.int .u8 2, .int .i64 i, .float .f64 fb, .string s]] w fun e w' => ∃ v', e = .returned v' ∧ OB w' B v' (bs ++ ([4] ++ be8 (realBits fb))) ∧ Grew w v w' v' := by
  have hord : (FloatKind.f64.format.order fb 0 == some Ordering.eq) = true := by rw [order_zero fb hfb]; simp [hz]
  have E : Hid (bits .or .u64 0 9223372036854775808 = realBits fb) := by
    have := or_top_i 0 (by omega)
    simp only [realBits, hz, if_true]
    exact this
  have hf := f64bits 0
  have hb1 := (Below.refl w.heap.size w).alloc (Nat.le_refl _) (Obj.cells #[.int .u8 2, .int .i64 i, .float .f64 fb, .string s] 30)
  have hb2 := hb1.alloc hb1.size (Obj.cells #[.int .u8 4] 5)
  have NW : Hid _ := news1 (w.alloc (Obj.cells #[.int .u8 2, .int .i64 i, .float .f64 fb, .string s] 30)) (w.heap.size + 1) (by simp) 4
  clear hz
  go_enter Ybaf.func16, Ybaf.ntmps16
  go_wp2_with (at_builtin; refine wpList_app _ rfl _ _ rfl B v bs [4] rfl (h.below hb2) ⟨w.heap.size + 1, 0, none⟩ 1 1 rfl rfl NW.out (by omega) (by omega) ?_; intro v2 w3 hO2 hG2)
  rw [E.out]
  refine (au64_any w3 B v2 (bs ++ [4]) (realBits fb) hO2 (realBits_lo fb hfb) (realBits_hi fb hfb) (by simp; omega)).mono ?_
  rintro e w4 ⟨v4, rfl, hO4, hG4⟩
  go_wp2
  go_ret
  exact ⟨_, rfl, by rw [show bs ++ 4 :: be8 (realBits fb) = bs ++ [4] ++ be8 (realBits fb) by simp]; exact hO4, ((Grew.of_below hb2).trans hG2).trans hG4⟩

set_option maxHeartbeats 4000000 in
theorem key_real_n (w : World) (B : Nat) (v : Value) (bs : List Int) (i : Int) (fb : Nat) (s : ByteArray) (hfb : fb < 18446744073709551616) (hz : ¬ fb % 9223372036854775808 = 0) (hn : 9223372036854775808 ≤ fb) (h : OB w B v bs) (hlen : bs.length ≤ 70368744177000) :
    Calls Ybaf.prog 16 #[v, .agg #[.int .u8 2, .int .i64 i, .float .f64 fb, .string s]] w fun e w' => ∃ v', e = .returned v' ∧ OB w' B v' (bs ++ ([4] ++ be8 (realBits fb))) ∧ Grew w v w' v' := by
  have hord : (FloatKind.f64.format.order fb 0 == some Ordering.eq) = false := by rw [order_zero fb hfb]; simp [hz]
  have E : Hid (bits .xor .u64 IntKind.u64.max (fb : Int) = realBits fb) := by
    have := all_xor_i fb (by omega)
    simp only [realBits, hz, if_false, hn, if_true]
    exact this
  have hf := f64bits fb
  have hd : (fb : Int) / 9223372036854775808 = 1 := by omega
  have hb1 := (Below.refl w.heap.size w).alloc (Nat.le_refl _) (Obj.cells #[.int .u8 2, .int .i64 i, .float .f64 fb, .string s] 30)
  have hb2 := hb1.alloc hb1.size (Obj.cells #[.int .u8 4] 5)
  have NW : Hid _ := news1 (w.alloc (Obj.cells #[.int .u8 2, .int .i64 i, .float .f64 fb, .string s] 30)) (w.heap.size + 1) (by simp) 4
  clear hz
  go_enter Ybaf.func16, Ybaf.ntmps16
  go_wp2_with (at_builtin; refine wpList_app _ rfl _ _ rfl B v bs [4] rfl (h.below hb2) ⟨w.heap.size + 1, 0, none⟩ 1 1 rfl rfl NW.out (by omega) (by omega) ?_; intro v2 w3 hO2 hG2)
  rw [E.out]
  refine (au64_any w3 B v2 (bs ++ [4]) (realBits fb) hO2 (realBits_lo fb hfb) (realBits_hi fb hfb) (by simp; omega)).mono ?_
  rintro e w4 ⟨v4, rfl, hO4, hG4⟩
  go_wp2
  go_ret
  exact ⟨_, rfl, by rw [show bs ++ 4 :: be8 (realBits fb) = bs ++ [4] ++ be8 (realBits fb) by simp]; exact hO4, ((Grew.of_below hb2).trans hG2).trans hG4⟩

set_option maxHeartbeats 4000000 in
theorem key_real_p (w : World) (B : Nat) (v : Value) (bs : List Int) (i : Int) (fb : Nat) (s : ByteArray) (hfb : fb < 18446744073709551616) (hz : ¬ fb % 9223372036854775808 = 0) (hn : ¬ 9223372036854775808 ≤ fb) (h : OB w B v bs) (hlen : bs.length ≤ 70368744177000) :
    Calls Ybaf.prog 16 #[v, .agg #[.int .u8 2, .int .i64 i, .float .f64 fb, .string s]] w fun e w' => ∃ v', e = .returned v' ∧ OB w' B v' (bs ++ ([4] ++ be8 (realBits fb))) ∧ Grew w v w' v' := by
  have hord : (FloatKind.f64.format.order fb 0 == some Ordering.eq) = false := by rw [order_zero fb hfb]; simp [hz]
  have E : Hid (bits .or .u64 (fb : Int) 9223372036854775808 = realBits fb) := by
    have := or_top_i fb (by omega)
    simp only [realBits, hz, if_false, hn]
    exact this
  have hf := f64bits fb
  have hd : (fb : Int) / 9223372036854775808 = 0 := by omega
  have hb1 := (Below.refl w.heap.size w).alloc (Nat.le_refl _) (Obj.cells #[.int .u8 2, .int .i64 i, .float .f64 fb, .string s] 30)
  have hb2 := hb1.alloc hb1.size (Obj.cells #[.int .u8 4] 5)
  have NW : Hid _ := news1 (w.alloc (Obj.cells #[.int .u8 2, .int .i64 i, .float .f64 fb, .string s] 30)) (w.heap.size + 1) (by simp) 4
  clear hz
  go_enter Ybaf.func16, Ybaf.ntmps16
  go_wp2_with (at_builtin; refine wpList_app _ rfl _ _ rfl B v bs [4] rfl (h.below hb2) ⟨w.heap.size + 1, 0, none⟩ 1 1 rfl rfl NW.out (by omega) (by omega) ?_; intro v2 w3 hO2 hG2)
  rw [E.out]
  refine (au64_any w3 B v2 (bs ++ [4]) (realBits fb) hO2 (realBits_lo fb hfb) (realBits_hi fb hfb) (by simp; omega)).mono ?_
  rintro e w4 ⟨v4, rfl, hO4, hG4⟩
  go_wp2
  go_ret
  exact ⟨_, rfl, by rw [show bs ++ 4 :: be8 (realBits fb) = bs ++ [4] ++ be8 (realBits fb) by simp]; exact hO4, ((Grew.of_below hb2).trans hG2).trans hG4⟩

theorem key_real (w : World) (B : Nat) (v : Value) (bs : List Int) (i : Int) (fb : Nat) (s : ByteArray) (hfb : fb < 18446744073709551616) (h : OB w B v bs) (hlen : bs.length ≤ 70368744177000) :
    Calls Ybaf.prog 16 #[v, .agg #[.int .u8 2, .int .i64 i, .float .f64 fb, .string s]] w fun e w' => ∃ v', e = .returned v' ∧ OB w' B v' (bs ++ ([4] ++ be8 (realBits fb))) ∧ Grew w v w' v' := by
  by_cases hz : fb % 9223372036854775808 = 0
  · exact key_real_z w B v bs i fb s hfb hz h hlen
  · by_cases hn : 9223372036854775808 ≤ fb
    · exact key_real_n w B v bs i fb s hfb hz hn h hlen
    · exact key_real_p w B v bs i fb s hfb hz hn h hlen

set_option maxHeartbeats 4000000 in
theorem enc_real_z (w : World) (B : Nat) (v : Value) (bs : List Int) (q i : Int) (fb : Nat) (s : ByteArray) (hq : 0 ≤ q ∧ q ≤ 255 ∧ q % 4 = 2) (hfb : fb < 18446744073709551616) (hz : fb % 9223372036854775808 = 0) (h : OB w B v bs) (hlen : bs.length ≤ 70368744177000) :
    Calls Ybaf.prog 12 #[v, .agg #[.int .u8 q, .int .i64 i, .float .f64 fb, .string s]] w fun e w' => ∃ v', e = .returned v' ∧ OB w' B v' (bs ++ ([4] ++ be8 (realBits fb))) ∧ Grew w v w' v' := by
  obtain ⟨hq0, hq1, hq2⟩ := hq
  have hord : (IntKind.u64.wrap ((fb : Int) * 2) == 0) = true := by rw [wrap64]; simp; omega
  have E : Hid (bits .xor .u64 0 9223372036854775808 = realBits fb) := by
    have := xor_top_i 0 (by omega)
    simp only [realBits, hz, if_true]
    exact this
  have hf := f64bits fb
  have hb1 := (Below.refl w.heap.size w).alloc (Nat.le_refl _) (Obj.cells #[.int .u8 q, .int .i64 i, .float .f64 fb, .string s] 26)
  have hb2 := hb1.alloc hb1.size (Obj.cells #[.int .u8 4] 5)
  have NW : Hid _ := news1 (w.alloc (Obj.cells #[.int .u8 q, .int .i64 i, .float .f64 fb, .string s] 26)) (w.heap.size + 1) (by simp) 4
  clear hz
  go_enter Ybaf.func12, Ybaf.ntmps12
  go_wp2_with (at_builtin; refine wpList_app _ rfl _ _ rfl B v bs [4] rfl (h.below hb2) ⟨w.heap.size + 1, 0, none⟩ 1 1 rfl rfl NW.out (by omega) (by omega) ?_; intro v2 w3 hO2 hG2)
  rw [E.out]
  refine (u64_any w3 B v2 (bs ++ [4]) (realBits fb) hO2 (realBits_lo fb hfb) (realBits_hi fb hfb) (by simp; omega)).mono ?_
  rintro e w4 ⟨v4, rfl, hO4, hG4⟩
  go_wp2
  go_ret
  exact ⟨_, rfl, by rw [show bs ++ 4 :: be8 (realBits fb) = bs ++ [4] ++ be8 (realBits fb) by simp]; exact hO4, ((Grew.of_below hb2).trans hG2).trans hG4⟩

set_option maxHeartbeats 4000000 in
theorem enc_real_n (w : World) (B : Nat) (v : Value) (bs : List Int) (q i : Int) (fb : Nat) (s : ByteArray) (hq : 0 ≤ q ∧ q ≤ 255 ∧ q % 4 = 2) (hfb : fb < 18446744073709551616) (hz : ¬ fb % 9223372036854775808 = 0) (hn : 9223372036854775808 ≤ fb) (h : OB w B v bs) (hlen : bs.length ≤ 70368744177000) :
    Calls Ybaf.prog 12 #[v, .agg #[.int .u8 q, .int .i64 i, .float .f64 fb, .string s]] w fun e w' => ∃ v', e = .returned v' ∧ OB w' B v' (bs ++ ([4] ++ be8 (realBits fb))) ∧ Grew w v w' v' := by
  obtain ⟨hq0, hq1, hq2⟩ := hq
  have hord : (IntKind.u64.wrap ((fb : Int) * 2) == 0) = false := by rw [wrap64]; simp; omega
  have hd : (fb : Int) / 9223372036854775808 = 1 := by omega
  have E : Hid (bits .xor .u64 (fb : Int) 18446744073709551615 = realBits fb) := by
    have := xor_all_i fb (by omega)
    simp only [realBits, hz, if_false, hn, if_true]
    exact this
  have hf := f64bits fb
  have hb1 := (Below.refl w.heap.size w).alloc (Nat.le_refl _) (Obj.cells #[.int .u8 q, .int .i64 i, .float .f64 fb, .string s] 26)
  have hb2 := hb1.alloc hb1.size (Obj.cells #[.int .u8 4] 5)
  have NW : Hid _ := news1 (w.alloc (Obj.cells #[.int .u8 q, .int .i64 i, .float .f64 fb, .string s] 26)) (w.heap.size + 1) (by simp) 4
  clear hz
  go_enter Ybaf.func12, Ybaf.ntmps12
  go_wp2_with (at_builtin; refine wpList_app _ rfl _ _ rfl B v bs [4] rfl (h.below hb2) ⟨w.heap.size + 1, 0, none⟩ 1 1 rfl rfl NW.out (by omega) (by omega) ?_; intro v2 w3 hO2 hG2)
  rw [E.out]
  refine (u64_any w3 B v2 (bs ++ [4]) (realBits fb) hO2 (realBits_lo fb hfb) (realBits_hi fb hfb) (by simp; omega)).mono ?_
  rintro e w4 ⟨v4, rfl, hO4, hG4⟩
  go_wp2
  go_ret
  exact ⟨_, rfl, by rw [show bs ++ 4 :: be8 (realBits fb) = bs ++ [4] ++ be8 (realBits fb) by simp]; exact hO4, ((Grew.of_below hb2).trans hG2).trans hG4⟩

set_option maxHeartbeats 4000000 in
theorem enc_real_p (w : World) (B : Nat) (v : Value) (bs : List Int) (q i : Int) (fb : Nat) (s : ByteArray) (hq : 0 ≤ q ∧ q ≤ 255 ∧ q % 4 = 2) (hfb : fb < 18446744073709551616) (hz : ¬ fb % 9223372036854775808 = 0) (hn : ¬ 9223372036854775808 ≤ fb) (h : OB w B v bs) (hlen : bs.length ≤ 70368744177000) :
    Calls Ybaf.prog 12 #[v, .agg #[.int .u8 q, .int .i64 i, .float .f64 fb, .string s]] w fun e w' => ∃ v', e = .returned v' ∧ OB w' B v' (bs ++ ([4] ++ be8 (realBits fb))) ∧ Grew w v w' v' := by
  obtain ⟨hq0, hq1, hq2⟩ := hq
  have hord : (IntKind.u64.wrap ((fb : Int) * 2) == 0) = false := by rw [wrap64]; simp; omega
  have hd : (fb : Int) / 9223372036854775808 = 0 := by omega
  have hord2 : ((fb : Int) * 2 == 0) = false := by simp; omega
  have E : Hid (bits .xor .u64 (fb : Int) 9223372036854775808 = realBits fb) := by
    have := xor_top_i fb (by omega)
    simp only [realBits, hz, if_false, hn]
    exact this
  have hf := f64bits fb
  have hb1 := (Below.refl w.heap.size w).alloc (Nat.le_refl _) (Obj.cells #[.int .u8 q, .int .i64 i, .float .f64 fb, .string s] 26)
  have hb2 := hb1.alloc hb1.size (Obj.cells #[.int .u8 4] 5)
  have NW : Hid _ := news1 (w.alloc (Obj.cells #[.int .u8 q, .int .i64 i, .float .f64 fb, .string s] 26)) (w.heap.size + 1) (by simp) 4
  clear hz
  go_enter Ybaf.func12, Ybaf.ntmps12
  go_wp2_with (at_builtin; refine wpList_app _ rfl _ _ rfl B v bs [4] rfl (h.below hb2) ⟨w.heap.size + 1, 0, none⟩ 1 1 rfl rfl NW.out (by omega) (by omega) ?_; intro v2 w3 hO2 hG2)
  rw [E.out]
  refine (u64_any w3 B v2 (bs ++ [4]) (realBits fb) hO2 (realBits_lo fb hfb) (realBits_hi fb hfb) (by simp; omega)).mono ?_
  rintro e w4 ⟨v4, rfl, hO4, hG4⟩
  go_wp2
  go_ret
  exact ⟨_, rfl, by rw [show bs ++ 4 :: be8 (realBits fb) = bs ++ [4] ++ be8 (realBits fb) by simp]; exact hO4, ((Grew.of_below hb2).trans hG2).trans hG4⟩

theorem enc_real (w : World) (B : Nat) (v : Value) (bs : List Int) (q i : Int) (fb : Nat) (s : ByteArray) (hq : 0 ≤ q ∧ q ≤ 255 ∧ q % 4 = 2) (hfb : fb < 18446744073709551616) (h : OB w B v bs) (hlen : bs.length ≤ 70368744177000) :
    Calls Ybaf.prog 12 #[v, .agg #[.int .u8 q, .int .i64 i, .float .f64 fb, .string s]] w fun e w' => ∃ v', e = .returned v' ∧ OB w' B v' (bs ++ ([4] ++ be8 (realBits fb))) ∧ Grew w v w' v' := by
  by_cases hz : fb % 9223372036854775808 = 0
  · exact enc_real_z w B v bs q i fb s hq hfb hz h hlen
  · by_cases hn : 9223372036854775808 ≤ fb
    · exact enc_real_n w B v bs q i fb s hq hfb hz hn h hlen
    · exact enc_real_p w B v bs q i fb s hq hfb hz hn h hlen
end Go.Proofs.YbulkdngeFmt
