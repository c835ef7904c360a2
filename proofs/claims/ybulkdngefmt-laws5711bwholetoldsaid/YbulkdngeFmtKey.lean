/-
  Seat b5711aF: AppendKey (16) and zzs5711benc (12): the same bytes.
-/
import Derived.Test.YbulkdngeFmtU64
import Derived.Laws.Closers25b
namespace Go.Proofs.YbulkdngeFmt
open Go.RowKit
set_option linter.unusedVariables false

theorem news1 (W : World) (H : Nat) (hH : W.heap.size = H) (x : Int) : ∀ j u, (cellsB [x])[j]? = some u → (W.alloc (Obj.cells #[.int .u8 x] 5)).cell? ((⟨H, 0, none⟩ : Addr).add j) = some u := by
  refine World.news_of_block (cs := #[.int .u8 x]) (t := 5) (fr := (0, 0)) ?_
  rw [← hH]
  exact Deep.blk_alloc_new W _
theorem news2 (W : World) (H : Nat) (hH : W.heap.size = H) (x y : Int) : ∀ j u, (cellsB [x, y])[j]? = some u → (W.alloc (Obj.cells #[.int .u8 x, .int .u8 y] 5)).cell? ((⟨H, 0, none⟩ : Addr).add j) = some u := by
  refine World.news_of_block (cs := #[.int .u8 x, .int .u8 y]) (t := 5) (fr := (0, 0)) ?_
  rw [← hH]
  exact Deep.blk_alloc_new W _

/-- A boxed value, as the functions that append see it. -/
structure Box (w : World) (N : Nat) (k i : Int) (fb : Nat) (s : ByteArray) : Prop where
  c0 : w.cell? ⟨N, 0, none⟩ = some (.int .u8 k)
  c1 : w.cell? ⟨N, 1, none⟩ = some (.int .i64 i)
  c2 : w.cell? ⟨N, 2, none⟩ = some (.float .f64 fb)
  c3 : w.cell? ⟨N, 3, none⟩ = some (.string s)
theorem Box.alloc (w : World) (k i : Int) (fb : Nat) (s : ByteArray) (t : TypeId) : Box (w.alloc (Obj.cells #[.int .u8 k, .int .i64 i, .float .f64 fb, .string s] t)) w.heap.size k i fb s :=
  ⟨by simp [go_sem], by simp [go_sem], by simp [go_sem], by simp [go_sem]⟩
theorem Box.below {w w' : World} {N : Nat} {k i : Int} {fb : Nat} {s : ByteArray} (h : Box w N k i fb s) (hb : Below w.heap.size w w') : Box w' N k i fb s :=
  ⟨(hb.cell (cell_lt h.c0)).trans h.c0, (hb.cell (cell_lt h.c1)).trans h.c1, (hb.cell (cell_lt h.c2)).trans h.c2, (hb.cell (cell_lt h.c3)).trans h.c3⟩
theorem Box.grew {w w' : World} {v v' : Value} {N : Nat} {k i : Int} {fb : Nat} {s : ByteArray} (h : Box w N k i fb s) (hg : Grew w v w' v') (hn : v.ownBlock ≠ some N) : Box w' N k i fb s :=
  ⟨hg.kept.cell h.c0 hn, hg.kept.cell h.c1 hn, hg.kept.cell h.c2 hn, hg.kept.cell h.c3 hn⟩
theorem OB.not_new {w : World} {B : Nat} {v : Value} {bs : List Int} (h : OB w B v bs) : v.ownBlock ≠ some w.heap.size := fun e => by
  have := (h.ge e).2
  omega

/-- An integer's bits with the top one turned. -/
def topInt (i : Int) : Int := bits .xor .u64 (IntKind.u64.wrap i) 9223372036854775808

set_option maxHeartbeats 2000000 in
theorem key_int (w : World) (B : Nat) (v : Value) (bs : List Int) (q i : Int) (fb : Nat) (s : ByteArray) (hq : q = 1) (h : OB w B v bs) (h0 : -9223372036854775808 ≤ i) (h1 : i ≤ 9223372036854775807) (hlen : bs.length ≤ 70368744177000) :
    Calls Ybaf.prog 16 #[v, .agg #[.int .u8 q, .int .i64 i, .float .f64 fb, .string s]] w fun e w' => ∃ v', e = .returned v' ∧ OB w' B v' (bs ++ ([3] ++ be8 (topInt i))) ∧ Grew w v w' v' := by
  subst hq
  have hb1 := (Below.refl w.heap.size w).alloc (Nat.le_refl _) (Obj.cells #[.int .u8 1, .int .i64 i, .float .f64 fb, .string s] 30)
  have hb2 := hb1.alloc hb1.size (Obj.cells #[.int .u8 3] 5)
  have box := (Box.alloc w 1 i fb s 30).below ((Below.refl _ _).alloc (Nat.le_refl _) (Obj.cells #[.int .u8 3] 5))
  have NW : Hid _ := news1 (w.alloc (Obj.cells #[.int .u8 1, .int .i64 i, .float .f64 fb, .string s] 30)) (w.heap.size + 1) (by simp) 3
  have HN : Hid _ := h.not_new
  go_enter Ybaf.func16, Ybaf.ntmps16
  go_wp2_with (at_builtin; refine wpList_app _ rfl _ _ rfl B v bs [3] rfl (h.below hb2) ⟨w.heap.size + 1, 0, none⟩ 1 1 rfl rfl NW.out (by omega) (by omega) ?_; intro v2 w3 hO2 hG2; have bx := box.grew hG2 HN.out; have x1 := bx.c1)
  refine (au64_any w3 B v2 (bs ++ [3]) (topInt i) hO2 (bits_lo_u64 _ _ _) (by have := bits_hi_u64 .xor (IntKind.u64.wrap i) 9223372036854775808; unfold topInt; omega) (by simp; omega)).mono ?_
  rintro e w4 ⟨v4, rfl, hO4, hG4⟩
  go_wp2
  go_ret
  exact ⟨_, rfl, by rw [show bs ++ 3 :: be8 (topInt i) = bs ++ [3] ++ be8 (topInt i) by simp]; exact hO4, ((Grew.of_below hb2).trans hG2).trans hG4⟩

set_option maxHeartbeats 2000000 in
theorem enc_int (w : World) (B : Nat) (v : Value) (bs : List Int) (q i : Int) (fb : Nat) (s : ByteArray) (hq : 0 ≤ q ∧ q ≤ 255 ∧ q % 4 = 1) (h : OB w B v bs) (h0 : -9223372036854775808 ≤ i) (h1 : i ≤ 9223372036854775807) (hlen : bs.length ≤ 70368744177000) :
    Calls Ybaf.prog 12 #[v, .agg #[.int .u8 q, .int .i64 i, .float .f64 fb, .string s]] w fun e w' => ∃ v', e = .returned v' ∧ OB w' B v' (bs ++ ([3] ++ be8 (topInt i))) ∧ Grew w v w' v' := by
  obtain ⟨hq0, hq1, hq2⟩ := hq
  have hb1 := (Below.refl w.heap.size w).alloc (Nat.le_refl _) (Obj.cells #[.int .u8 q, .int .i64 i, .float .f64 fb, .string s] 26)
  have hb2 := hb1.alloc hb1.size (Obj.cells #[.int .u8 3] 5)
  have box := (Box.alloc w q i fb s 26).below ((Below.refl _ _).alloc (Nat.le_refl _) (Obj.cells #[.int .u8 3] 5))
  have NW : Hid _ := news1 (w.alloc (Obj.cells #[.int .u8 q, .int .i64 i, .float .f64 fb, .string s] 26)) (w.heap.size + 1) (by simp) 3
  have HN : Hid _ := h.not_new
  go_enter Ybaf.func12, Ybaf.ntmps12
  go_wp2_with (at_builtin; refine wpList_app _ rfl _ _ rfl B v bs [3] rfl (h.below hb2) ⟨w.heap.size + 1, 0, none⟩ 1 1 rfl rfl NW.out (by omega) (by omega) ?_; intro v2 w3 hO2 hG2; have bx := box.grew hG2 HN.out; have x1 := bx.c1)
  refine (u64_any w3 B v2 (bs ++ [3]) (topInt i) hO2 (bits_lo_u64 _ _ _) (by have := bits_hi_u64 .xor (IntKind.u64.wrap i) 9223372036854775808; unfold topInt; omega) (by simp; omega)).mono ?_
  rintro e w4 ⟨v4, rfl, hO4, hG4⟩
  go_wp2
  go_ret
  exact ⟨_, rfl, by rw [show bs ++ 3 :: be8 (topInt i) = bs ++ [3] ++ be8 (topInt i) by simp]; exact hO4, ((Grew.of_below hb2).trans hG2).trans hG4⟩

set_option maxHeartbeats 2000000 in
theorem key_null (w : World) (B : Nat) (v : Value) (bs : List Int) (q i : Int) (fb : Nat) (s : ByteArray) (hq : q = 0) (h : OB w B v bs) (hlen : bs.length ≤ 70368744177000) :
    Calls Ybaf.prog 16 #[v, .agg #[.int .u8 q, .int .i64 i, .float .f64 fb, .string s]] w fun e w' => ∃ v', e = .returned v' ∧ OB w' B v' (bs ++ [1]) ∧ Grew w v w' v' := by
  subst hq
  have hb1 := (Below.refl w.heap.size w).alloc (Nat.le_refl _) (Obj.cells #[.int .u8 0, .int .i64 i, .float .f64 fb, .string s] 30)
  have hb2 := hb1.alloc hb1.size (Obj.cells #[.int .u8 1] 5)
  have NW : Hid _ := news1 (w.alloc (Obj.cells #[.int .u8 0, .int .i64 i, .float .f64 fb, .string s] 30)) (w.heap.size + 1) (by simp) 1
  go_enter Ybaf.func16, Ybaf.ntmps16
  go_wp2_with (at_builtin; refine wpList_app _ rfl _ _ rfl B v bs [1] rfl (h.below hb2) ⟨w.heap.size + 1, 0, none⟩ 1 1 rfl rfl NW.out (by omega) (by omega) ?_; intro v2 w3 hO2 hG2)
  go_wp2
  go_ret
  exact ⟨_, rfl, hO2, (Grew.of_below hb2).trans hG2⟩

set_option maxHeartbeats 2000000 in
theorem enc_null (w : World) (B : Nat) (v : Value) (bs : List Int) (q i : Int) (fb : Nat) (s : ByteArray) (hq : 0 ≤ q ∧ q ≤ 255 ∧ q % 4 = 0) (h : OB w B v bs) (hlen : bs.length ≤ 70368744177000) :
    Calls Ybaf.prog 12 #[v, .agg #[.int .u8 q, .int .i64 i, .float .f64 fb, .string s]] w fun e w' => ∃ v', e = .returned v' ∧ OB w' B v' (bs ++ [1]) ∧ Grew w v w' v' := by
  obtain ⟨hq0, hq1, hq2⟩ := hq
  have hb1 := (Below.refl w.heap.size w).alloc (Nat.le_refl _) (Obj.cells #[.int .u8 q, .int .i64 i, .float .f64 fb, .string s] 26)
  have hb2 := hb1.alloc hb1.size (Obj.cells #[.int .u8 1] 5)
  have NW : Hid _ := news1 (w.alloc (Obj.cells #[.int .u8 q, .int .i64 i, .float .f64 fb, .string s] 26)) (w.heap.size + 1) (by simp) 1
  go_enter Ybaf.func12, Ybaf.ntmps12
  go_wp2_with (at_builtin; refine wpList_app _ rfl _ _ rfl B v bs [1] rfl (h.below hb2) ⟨w.heap.size + 1, 0, none⟩ 1 1 rfl rfl NW.out (by omega) (by omega) ?_; intro v2 w3 hO2 hG2)
  go_wp2
  go_ret
  exact ⟨_, rfl, hO2, (Grew.of_below hb2).trans hG2⟩

end Go.Proofs.YbulkdngeFmt
