/-
  Seat b5711aF: a cell of the row: its key's bytes by either function; its value.
-/
import Derived.Test.YbulkdngeFmtText
namespace Go.Proofs.YbulkdngeFmt
open Go.RowKit
set_option linter.unusedVariables false

/-- A cell as it came in. -/
structure Cel where
  q : Int
  i : Int
  fb : Nat
  s : ByteArray

structure Cel.Ok (c : Cel) : Prop where
  q0 : 0 ≤ c.q
  q1 : c.q ≤ 255
  i0 : -9223372036854775808 ≤ c.i
  i1 : c.i ≤ 9223372036854775807
  f1 : c.fb < 18446744073709551616
  s1 : c.s.size ≤ 1048576

def Cel.vq (c : Cel) : Int := c.q % 4
def Cel.vi (c : Cel) : Int := if c.q % 4 = 1 then c.i else 0
def Cel.vf (c : Cel) : Nat := if c.q % 4 = 2 then c.fb else 0
def Cel.vs (c : Cel) : ByteArray := if c.q % 4 = 3 then c.s else ⟨#[]⟩
def Cel.enc (c : Cel) : List Int := if c.q % 4 = 0 then [1] else if c.q % 4 = 1 then [3] ++ be8 (topInt c.i) else if c.q % 4 = 2 then [4] ++ be8 (realBits c.fb) else encText c.s

theorem be8_len (u : Int) : (be8 u).length = 8 := rfl
theorem Cel.enc_len (c : Cel) (h : c.Ok) : c.enc.length ≤ 2097200 := by
  have h1 := escTo_len c.s c.s.size
  have h2 := h.s1
  unfold Cel.enc
  split
  · simp
  · split
    · simp [be8_len]
    · split
      · simp [be8_len]
      · simp only [encText, List.length_append, List.length_cons, List.length_nil]; omega

theorem enc_any (w : World) (B : Nat) (v : Value) (bs : List Int) (c : Cel) (ok : c.Ok) (h : OB w B v bs) (hlen : bs.length ≤ 70368744177000) :
    Calls Ybaf.prog 12 #[v, .agg #[.int .u8 c.q, .int .i64 c.i, .float .f64 c.fb, .string c.s]] w fun e w' => ∃ v', e = .returned v' ∧ OB w' B v' (bs ++ c.enc) ∧ Grew w v w' v' := by
  have h4 : c.q % 4 = 0 ∨ c.q % 4 = 1 ∨ c.q % 4 = 2 ∨ c.q % 4 = 3 := by omega
  rcases h4 with hq | hq | hq | hq
  · rw [show c.enc = [1] by simp [Cel.enc, hq]]
    exact enc_null w B v bs c.q c.i c.fb c.s ⟨ok.q0, ok.q1, hq⟩ h hlen
  · rw [show c.enc = [3] ++ be8 (topInt c.i) by simp [Cel.enc, hq]]
    exact enc_int w B v bs c.q c.i c.fb c.s ⟨ok.q0, ok.q1, hq⟩ h ok.i0 ok.i1 hlen
  · rw [show c.enc = [4] ++ be8 (realBits c.fb) by simp [Cel.enc, hq]]
    exact enc_real w B v bs c.q c.i c.fb c.s ⟨ok.q0, ok.q1, hq⟩ ok.f1 h hlen
  · rw [show c.enc = encText c.s by simp [Cel.enc, hq]]
    exact enc_text w B v bs c.q c.i c.fb c.s ⟨ok.q0, ok.q1, hq⟩ ok.s1 h hlen

theorem key_any (w : World) (B : Nat) (v : Value) (bs : List Int) (c : Cel) (ok : c.Ok) (h : OB w B v bs) (hlen : bs.length ≤ 70368744177000) :
    Calls Ybaf.prog 16 #[v, .agg #[.int .u8 c.vq, .int .i64 c.vi, .float .f64 c.vf, .string c.vs]] w fun e w' => ∃ v', e = .returned v' ∧ OB w' B v' (bs ++ c.enc) ∧ Grew w v w' v' := by
  have h4 : c.q % 4 = 0 ∨ c.q % 4 = 1 ∨ c.q % 4 = 2 ∨ c.q % 4 = 3 := by omega
  rcases h4 with hq | hq | hq | hq
  · rw [show c.enc = [1] by simp [Cel.enc, hq], show c.vq = 0 by simp [Cel.vq, hq]]
    exact key_null w B v bs 0 c.vi c.vf c.vs rfl h hlen
  · rw [show c.enc = [3] ++ be8 (topInt c.i) by simp [Cel.enc, hq], show c.vq = 1 by simp [Cel.vq, hq], show c.vi = c.i by simp [Cel.vi, hq]]
    exact key_int w B v bs 1 c.i c.vf c.vs rfl h ok.i0 ok.i1 hlen
  · rw [show c.enc = [4] ++ be8 (realBits c.fb) by simp [Cel.enc, hq], show c.vq = 2 by simp [Cel.vq, hq], show c.vf = c.fb by simp [Cel.vf, hq]]
    exact key_real w B v bs c.vi c.fb c.vs ok.f1 h hlen
  · rw [show c.enc = encText c.s by simp [Cel.enc, hq], show c.vq = 3 by simp [Cel.vq, hq], show c.vs = c.s by simp [Cel.vs, hq]]
    exact key_text w B v bs c.vi c.vf c.s ok.s1 h hlen

/-- A float stored: it takes one cell. -/
theorem store_float (k : FloatKind) (fb : Nat) (a : Addr) (m : Mode) (w : World) : (store a (.float k fb) m).run Ybaf.prog w = stored Ybaf.prog w a (.float k fb) m := run_store Ybaf.prog w a _ m rfl

set_option maxHeartbeats 1000000 in
theorem int_any (w : World) (i : Int) : Calls Ybaf.prog 8 #[.int .i64 i] w fun e w' => e = .returned (.agg #[.int .u8 1, .int .i64 i, .float .f64 0, .string ⟨#[]⟩]) ∧ w' = w.alloc (Obj.cells #[.int .u8 1, .int .i64 i, .float .f64 0, .string ⟨#[]⟩] 30) := by
  have hst := store_float .f64 0
  go_enter Ybaf.func8, Ybaf.ntmps8
  go_wp2
  exact bodyPost_ret (v := .agg #[.int .u8 1, .int .i64 i, .float .f64 0, .string ⟨#[]⟩]) (by simp [results, Ybaf.results8, go_sem]) rfl ⟨rfl, rfl⟩

set_option maxHeartbeats 1000000 in
theorem float_any (w : World) (fb : Nat) : Calls Ybaf.prog 13 #[.float .f64 fb] w fun e w' => e = .returned (.agg #[.int .u8 2, .int .i64 0, .float .f64 fb, .string ⟨#[]⟩]) ∧ w' = w.alloc (Obj.cells #[.int .u8 2, .int .i64 0, .float .f64 fb, .string ⟨#[]⟩] 30) := by
  have hst := store_float .f64 fb
  go_enter Ybaf.func13, Ybaf.ntmps13
  go_wp2
  exact bodyPost_ret (v := .agg #[.int .u8 2, .int .i64 0, .float .f64 fb, .string ⟨#[]⟩]) (by simp [results, Ybaf.results13, go_sem]) rfl ⟨rfl, rfl⟩

set_option maxHeartbeats 1000000 in
theorem str_any (w : World) (s : ByteArray) : Calls Ybaf.prog 14 #[.string s] w fun e w' => e = .returned (.agg #[.int .u8 3, .int .i64 0, .float .f64 0, .string s]) ∧ w' = w.alloc (Obj.cells #[.int .u8 3, .int .i64 0, .float .f64 0, .string s] 30) := by
  have hst := store_float .f64 0
  go_enter Ybaf.func14, Ybaf.ntmps14
  go_wp2
  exact bodyPost_ret (v := .agg #[.int .u8 3, .int .i64 0, .float .f64 0, .string s]) (by simp [results, Ybaf.results14, go_sem]) rfl ⟨rfl, rfl⟩

set_option maxHeartbeats 2000000 in
theorem value_1 (w : World) (q i : Int) (fb : Nat) (s : ByteArray) (hq0 : 0 ≤ q) (hq1 : q ≤ 255) (hq : q % 4 = 1) : Calls Ybaf.prog 4 #[.agg #[.int .u8 q, .int .i64 i, .float .f64 fb, .string s]] w fun e w' => e = .returned (.agg #[.int .u8 1, .int .i64 i, .float .f64 0, .string ⟨#[]⟩]) ∧ Below w.heap.size w w' := by
  have hst := store_float .f64 0
  go_enter Ybaf.func4, Ybaf.ntmps4
  go_wp2_with fail
  refine (int_any _ i).mono ?_
  rintro e w4 ⟨rfl, rfl⟩
  go_wp2
  refine bodyPost_ret (v := .agg #[.int .u8 1, .int .i64 i, .float .f64 0, .string ⟨#[]⟩]) (by simp [results, Ybaf.results4, go_sem]) rfl ⟨rfl, ?_⟩
  repeat (first | exact Below.refl _ _ | refine Below.alloc ?_ (by simp <;> omega) _)

set_option maxHeartbeats 2000000 in
theorem value_2 (w : World) (q i : Int) (fb : Nat) (s : ByteArray) (hq0 : 0 ≤ q) (hq1 : q ≤ 255) (hq : q % 4 = 2) : Calls Ybaf.prog 4 #[.agg #[.int .u8 q, .int .i64 i, .float .f64 fb, .string s]] w fun e w' => e = .returned (.agg #[.int .u8 2, .int .i64 0, .float .f64 fb, .string ⟨#[]⟩]) ∧ Below w.heap.size w w' := by
  have hst := store_float .f64 fb
  go_enter Ybaf.func4, Ybaf.ntmps4
  go_wp2_with fail
  refine (float_any _ fb).mono ?_
  rintro e w4 ⟨rfl, rfl⟩
  go_wp2
  refine bodyPost_ret (v := .agg #[.int .u8 2, .int .i64 0, .float .f64 fb, .string ⟨#[]⟩]) (by simp [results, Ybaf.results4, go_sem]) rfl ⟨rfl, ?_⟩
  repeat (first | exact Below.refl _ _ | refine Below.alloc ?_ (by simp <;> omega) _)

set_option maxHeartbeats 2000000 in
theorem value_3 (w : World) (q i : Int) (fb : Nat) (s : ByteArray) (hq0 : 0 ≤ q) (hq1 : q ≤ 255) (hq : q % 4 = 3) : Calls Ybaf.prog 4 #[.agg #[.int .u8 q, .int .i64 i, .float .f64 fb, .string s]] w fun e w' => e = .returned (.agg #[.int .u8 3, .int .i64 0, .float .f64 0, .string s]) ∧ Below w.heap.size w w' := by
  have hst := store_float .f64 0
  go_enter Ybaf.func4, Ybaf.ntmps4
  go_wp2_with fail
  refine (str_any _ s).mono ?_
  rintro e w4 ⟨rfl, rfl⟩
  go_wp2
  refine bodyPost_ret (v := .agg #[.int .u8 3, .int .i64 0, .float .f64 0, .string s]) (by simp [results, Ybaf.results4, go_sem]) rfl ⟨rfl, ?_⟩
  repeat (first | exact Below.refl _ _ | refine Below.alloc ?_ (by simp <;> omega) _)

set_option maxHeartbeats 2000000 in
theorem value_0 (w : World) (q i : Int) (fb : Nat) (s : ByteArray) (hq0 : 0 ≤ q) (hq1 : q ≤ 255) (hq : q % 4 = 0) : Calls Ybaf.prog 4 #[.agg #[.int .u8 q, .int .i64 i, .float .f64 fb, .string s]] w fun e w' => e = .returned (.agg #[.int .u8 0, .int .i64 0, .float .f64 0, .string ⟨#[]⟩]) ∧ Below w.heap.size w w' := by
  have hst := store_float .f64 0
  go_enter Ybaf.func4, Ybaf.ntmps4
  go_wp2
  refine bodyPost_ret (v := .agg #[.int .u8 0, .int .i64 0, .float .f64 0, .string ⟨#[]⟩]) (by simp [results, Ybaf.results4, go_sem]) rfl ⟨rfl, ?_⟩
  repeat (first | exact Below.refl _ _ | refine Below.alloc ?_ (by simp <;> omega) _)

theorem value_any (w : World) (c : Cel) (ok : c.Ok) :
    Calls Ybaf.prog 4 #[.agg #[.int .u8 c.q, .int .i64 c.i, .float .f64 c.fb, .string c.s]] w fun e w' => e = .returned (.agg #[.int .u8 c.vq, .int .i64 c.vi, .float .f64 c.vf, .string c.vs]) ∧ Below w.heap.size w w' := by
  have h4 : c.q % 4 = 0 ∨ c.q % 4 = 1 ∨ c.q % 4 = 2 ∨ c.q % 4 = 3 := by omega
  rcases h4 with hq | hq | hq | hq
  · simp only [Cel.vq, Cel.vi, Cel.vf, Cel.vs, hq]
    exact value_0 w c.q c.i c.fb c.s ok.q0 ok.q1 hq
  · simp only [Cel.vq, Cel.vi, Cel.vf, Cel.vs, hq]
    exact value_1 w c.q c.i c.fb c.s ok.q0 ok.q1 hq
  · simp only [Cel.vq, Cel.vi, Cel.vf, Cel.vs, hq]
    exact value_2 w c.q c.i c.fb c.s ok.q0 ok.q1 hq
  · simp only [Cel.vq, Cel.vi, Cel.vf, Cel.vs, hq]
    exact value_3 w c.q c.i c.fb c.s ok.q0 ok.q1 hq

set_option maxHeartbeats 1000000 in
theorem isNull_any (w : World) (k i : Int) (fb : Nat) (s : ByteArray) : Calls Ybaf.prog 22 #[.agg #[.int .u8 k, .int .i64 i, .float .f64 fb, .string s]] w fun e w' => e = .returned (.bool (k == 0)) ∧ w' = w.alloc (Obj.cells #[.int .u8 k, .int .i64 i, .float .f64 fb, .string s] 30) := by
  go_enter Ybaf.func22, Ybaf.ntmps22
  go_wp2
  go_ret
  exact ⟨rfl, rfl⟩

set_option maxHeartbeats 1000000 in
theorem asBool_any (w : World) (k i : Int) (fb : Nat) (s : ByteArray) : Calls Ybaf.prog 23 #[.agg #[.int .u8 k, .int .i64 i, .float .f64 fb, .string s]] w fun e w' => e = .returned (.bool (!(i == 0))) ∧ w' = w.alloc (Obj.cells #[.int .u8 k, .int .i64 i, .float .f64 fb, .string s] 30) := by
  go_enter Ybaf.func23, Ybaf.ntmps23
  go_wp2
  go_ret
  exact ⟨rfl, rfl⟩

end Go.Proofs.YbulkdngeFmt
