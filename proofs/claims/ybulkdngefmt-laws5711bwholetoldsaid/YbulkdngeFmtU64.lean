/-
  Seat b5711aF: eight bytes, the first the highest: zzs5711bu64 (19), binary.BigEndian.AppendUint64 (24).
-/
import Derived.Test.YbulkdngeFmtBase
namespace Go.Proofs.YbulkdngeFmt
open Go.RowKit
set_option linter.unusedVariables false

def be8 (u : Int) : List Int := [u / 72057594037927936 % 256, u / 281474976710656 % 256, u / 1099511627776 % 256, u / 4294967296 % 256, u / 16777216 % 256, u / 65536 % 256, u / 256 % 256, u % 256]

set_option maxHeartbeats 2000000 in
theorem u64_any (w : World) (B : Nat) (v : Value) (bs : List Int) (u : Int) (h : OB w B v bs) (h0 : 0 ≤ u) (h1 : u < 18446744073709551616) (hlen : bs.length ≤ 70368744177664) :
    Calls Ybaf.prog 19 #[v, .int .u64 u] w fun e w' => ∃ v', e = .returned v' ∧ OB w' B v' (bs ++ be8 u) ∧ Grew w v w' v' := by
  go_enter Ybaf.func19, Ybaf.ntmps19
  go_wp2
  go_loopw [0, 5] (fun v0 v5 wr => ∃ k : Nat, k ≤ 8 ∧ v5 = .int .i64 (56 - 8 * (k : Int)) ∧ OB wr B v0 (bs ++ (be8 u).take k) ∧ Grew w v wr v0) (fun _ v5 _ => (intOf v5 + 8).toNat)
  case atStart => exact ⟨0, by omega, rfl, by simpa using h, Grew.refl _ _⟩
  case round =>
    obtain ⟨k, hk, rfl, hO, hG⟩ := hrel
    have hk' : k = 0 ∨ k = 1 ∨ k = 2 ∨ k = 3 ∨ k = 4 ∨ k = 5 ∨ k = 6 ∨ k = 7 ∨ k = 8 := by omega
    rcases hk' with rfl | rfl | rfl | rfl | rfl | rfl | rfl | rfl | rfl
    · have hl : (bs ++ (be8 u).take 0).length = bs.length + 0 := by simp [be8]
      have hb1 := (Below.refl wr.heap.size wr).alloc (Nat.le_refl _) (Obj.cells #[.int .u8 (u / 72057594037927936)] 5)
      go_wp2_with (at_builtin; refine wpList_app _ rfl _ _ rfl B _ _ [u / 72057594037927936] rfl (hO.below hb1) ⟨wr.heap.size, 0, none⟩ 1 1 rfl rfl (cell_one_new _ _ _) (by omega) (by omega) ?_; intro v2 w3 hO2 hG2)
      go_wp2
      go_roundw
      case rel =>
        refine ⟨1, by omega, by simp, ?_, hG.trans ((Grew.of_below hb1).trans hG2)⟩
        have e : bs ++ (be8 u).take 1 = bs ++ (be8 u).take 0 ++ [u / 72057594037927936] := by
          simp [be8]; omega
        rw [e]
        exact hO2
      case measure => simp [intOf]
    · have hl : (bs ++ (be8 u).take 1).length = bs.length + 1 := by simp [be8]
      have hb1 := (Below.refl wr.heap.size wr).alloc (Nat.le_refl _) (Obj.cells #[.int .u8 (u / 281474976710656 % 256)] 5)
      go_wp2_with (at_builtin; refine wpList_app _ rfl _ _ rfl B _ _ [u / 281474976710656 % 256] rfl (hO.below hb1) ⟨wr.heap.size, 0, none⟩ 1 1 rfl rfl (cell_one_new _ _ _) (by omega) (by omega) ?_; intro v2 w3 hO2 hG2)
      go_wp2
      go_roundw
      case rel =>
        refine ⟨2, by omega, by simp, ?_, hG.trans ((Grew.of_below hb1).trans hG2)⟩
        have e : bs ++ (be8 u).take 2 = bs ++ (be8 u).take 1 ++ [u / 281474976710656 % 256] := by
          simp [be8]
        rw [e]
        exact hO2
      case measure => simp [intOf]
    · have hl : (bs ++ (be8 u).take 2).length = bs.length + 2 := by simp [be8]
      have hb1 := (Below.refl wr.heap.size wr).alloc (Nat.le_refl _) (Obj.cells #[.int .u8 (u / 1099511627776 % 256)] 5)
      go_wp2_with (at_builtin; refine wpList_app _ rfl _ _ rfl B _ _ [u / 1099511627776 % 256] rfl (hO.below hb1) ⟨wr.heap.size, 0, none⟩ 1 1 rfl rfl (cell_one_new _ _ _) (by omega) (by omega) ?_; intro v2 w3 hO2 hG2)
      go_wp2
      go_roundw
      case rel =>
        refine ⟨3, by omega, by simp, ?_, hG.trans ((Grew.of_below hb1).trans hG2)⟩
        have e : bs ++ (be8 u).take 3 = bs ++ (be8 u).take 2 ++ [u / 1099511627776 % 256] := by
          simp [be8]
        rw [e]
        exact hO2
      case measure => simp [intOf]
    · have hl : (bs ++ (be8 u).take 3).length = bs.length + 3 := by simp [be8]
      have hb1 := (Below.refl wr.heap.size wr).alloc (Nat.le_refl _) (Obj.cells #[.int .u8 (u / 4294967296 % 256)] 5)
      go_wp2_with (at_builtin; refine wpList_app _ rfl _ _ rfl B _ _ [u / 4294967296 % 256] rfl (hO.below hb1) ⟨wr.heap.size, 0, none⟩ 1 1 rfl rfl (cell_one_new _ _ _) (by omega) (by omega) ?_; intro v2 w3 hO2 hG2)
      go_wp2
      go_roundw
      case rel =>
        refine ⟨4, by omega, by simp, ?_, hG.trans ((Grew.of_below hb1).trans hG2)⟩
        have e : bs ++ (be8 u).take 4 = bs ++ (be8 u).take 3 ++ [u / 4294967296 % 256] := by
          simp [be8]
        rw [e]
        exact hO2
      case measure => simp [intOf]
    · have hl : (bs ++ (be8 u).take 4).length = bs.length + 4 := by simp [be8]
      have hb1 := (Below.refl wr.heap.size wr).alloc (Nat.le_refl _) (Obj.cells #[.int .u8 (u / 16777216 % 256)] 5)
      go_wp2_with (at_builtin; refine wpList_app _ rfl _ _ rfl B _ _ [u / 16777216 % 256] rfl (hO.below hb1) ⟨wr.heap.size, 0, none⟩ 1 1 rfl rfl (cell_one_new _ _ _) (by omega) (by omega) ?_; intro v2 w3 hO2 hG2)
      go_wp2
      go_roundw
      case rel =>
        refine ⟨5, by omega, by simp, ?_, hG.trans ((Grew.of_below hb1).trans hG2)⟩
        have e : bs ++ (be8 u).take 5 = bs ++ (be8 u).take 4 ++ [u / 16777216 % 256] := by
          simp [be8]
        rw [e]
        exact hO2
      case measure => simp [intOf]
    · have hl : (bs ++ (be8 u).take 5).length = bs.length + 5 := by simp [be8]
      have hb1 := (Below.refl wr.heap.size wr).alloc (Nat.le_refl _) (Obj.cells #[.int .u8 (u / 65536 % 256)] 5)
      go_wp2_with (at_builtin; refine wpList_app _ rfl _ _ rfl B _ _ [u / 65536 % 256] rfl (hO.below hb1) ⟨wr.heap.size, 0, none⟩ 1 1 rfl rfl (cell_one_new _ _ _) (by omega) (by omega) ?_; intro v2 w3 hO2 hG2)
      go_wp2
      go_roundw
      case rel =>
        refine ⟨6, by omega, by simp, ?_, hG.trans ((Grew.of_below hb1).trans hG2)⟩
        have e : bs ++ (be8 u).take 6 = bs ++ (be8 u).take 5 ++ [u / 65536 % 256] := by
          simp [be8]
        rw [e]
        exact hO2
      case measure => simp [intOf]
    · have hl : (bs ++ (be8 u).take 6).length = bs.length + 6 := by simp [be8]
      have hb1 := (Below.refl wr.heap.size wr).alloc (Nat.le_refl _) (Obj.cells #[.int .u8 (u / 256 % 256)] 5)
      go_wp2_with (at_builtin; refine wpList_app _ rfl _ _ rfl B _ _ [u / 256 % 256] rfl (hO.below hb1) ⟨wr.heap.size, 0, none⟩ 1 1 rfl rfl (cell_one_new _ _ _) (by omega) (by omega) ?_; intro v2 w3 hO2 hG2)
      go_wp2
      go_roundw
      case rel =>
        refine ⟨7, by omega, by simp, ?_, hG.trans ((Grew.of_below hb1).trans hG2)⟩
        have e : bs ++ (be8 u).take 7 = bs ++ (be8 u).take 6 ++ [u / 256 % 256] := by
          simp [be8]
        rw [e]
        exact hO2
      case measure => simp [intOf]
    · have hl : (bs ++ (be8 u).take 7).length = bs.length + 7 := by simp [be8]
      have hb1 := (Below.refl wr.heap.size wr).alloc (Nat.le_refl _) (Obj.cells #[.int .u8 (u % 256)] 5)
      go_wp2_with (at_builtin; refine wpList_app _ rfl _ _ rfl B _ _ [u % 256] rfl (hO.below hb1) ⟨wr.heap.size, 0, none⟩ 1 1 rfl rfl (cell_one_new _ _ _) (by omega) (by omega) ?_; intro v2 w3 hO2 hG2)
      go_wp2
      go_roundw
      case rel =>
        refine ⟨8, by omega, by simp, ?_, hG.trans ((Grew.of_below hb1).trans hG2)⟩
        have e : bs ++ (be8 u).take 8 = bs ++ (be8 u).take 7 ++ [u % 256] := by
          simp [be8]
        rw [e]
        exact hO2
      case measure => simp [intOf]
    · go_wp2
      go_ret
      exact ⟨_, rfl, by simpa [be8] using hO, hG⟩

set_option maxHeartbeats 2000000 in
theorem au64_any (w : World) (B : Nat) (v : Value) (bs : List Int) (u : Int) (h : OB w B v bs) (h0 : 0 ≤ u) (h1 : u < 18446744073709551616) (hlen : bs.length ≤ 70368744177664) :
    Calls Ybaf.prog 24 #[.agg #[], v, .int .u64 u] w fun e w' => ∃ v', e = .returned v' ∧ OB w' B v' (bs ++ be8 u) ∧ Grew w v w' v' := by
  have hb1 := (Below.refl w.heap.size w).alloc (Nat.le_refl _) (Obj.cells #[] 79)
  have hb2 := hb1.alloc hb1.size (Obj.cells #[.int .u8 (u / 72057594037927936), .int .u8 (u / 281474976710656 % 256), .int .u8 (u / 1099511627776 % 256), .int .u8 (u / 4294967296 % 256), .int .u8 (u / 16777216 % 256), .int .u8 (u / 65536 % 256), .int .u8 (u / 256 % 256), .int .u8 (u % 256)] 5)
  have he : be8 u = [u / 72057594037927936, u / 281474976710656 % 256, u / 1099511627776 % 256, u / 4294967296 % 256, u / 16777216 % 256, u / 65536 % 256, u / 256 % 256, u % 256] := by
    simp [be8]; omega
  have HE : Hid _ := he
  clear he
  have NB : Hid (∀ j x, (cellsB [u / 72057594037927936, u / 281474976710656 % 256, u / 1099511627776 % 256, u / 4294967296 % 256, u / 16777216 % 256, u / 65536 % 256, u / 256 % 256, u % 256])[j]? = some x → ((w.alloc (Obj.cells #[] 79)).alloc (Obj.cells #[.int .u8 (u / 72057594037927936), .int .u8 (u / 281474976710656 % 256), .int .u8 (u / 1099511627776 % 256), .int .u8 (u / 4294967296 % 256), .int .u8 (u / 16777216 % 256), .int .u8 (u / 65536 % 256), .int .u8 (u / 256 % 256), .int .u8 (u % 256)] 5)).cell? ((⟨w.heap.size + 1, 0, none⟩ : Addr).add j) = some x) := by
    refine World.news_of_block (cs := #[.int .u8 (u / 72057594037927936), .int .u8 (u / 281474976710656 % 256), .int .u8 (u / 1099511627776 % 256), .int .u8 (u / 4294967296 % 256), .int .u8 (u / 16777216 % 256), .int .u8 (u / 65536 % 256), .int .u8 (u / 256 % 256), .int .u8 (u % 256)]) (t := 5) (fr := (0, 0)) ?_
    have := Deep.blk_alloc_new (w.alloc (Obj.cells #[] 79)) (Obj.cells #[.int .u8 (u / 72057594037927936), .int .u8 (u / 281474976710656 % 256), .int .u8 (u / 1099511627776 % 256), .int .u8 (u / 4294967296 % 256), .int .u8 (u / 16777216 % 256), .int .u8 (u / 65536 % 256), .int .u8 (u / 256 % 256), .int .u8 (u % 256)] 5)
    rwa [Deep.nblk_alloc] at this
  go_enter Ybaf.func24, Ybaf.ntmps24
  go_wp2_with (at_builtin; refine wpList_app _ rfl _ _ rfl B v bs [u / 72057594037927936, u / 281474976710656 % 256, u / 1099511627776 % 256, u / 4294967296 % 256, u / 16777216 % 256, u / 65536 % 256, u / 256 % 256, u % 256] rfl (h.below hb2) ⟨w.heap.size + 1, 0, none⟩ 8 8 rfl rfl NB.out (by omega) (by omega) ?_; intro v2 w3 hO2 hG2)
  go_wp2
  go_ret
  exact ⟨_, rfl, by rw [HE.out]; exact hO2, (Grew.of_below hb2).trans hG2⟩
end Go.Proofs.YbulkdngeFmt
