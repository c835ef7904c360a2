/-
  Seat b5711aF: fmt.errorf, a stop: the closed facts that the walk wants.
-/
import Derived.Test.YbulkdngeFmtCovers
import Derived.Stop.CallBack
import Derived.Stop.IfaceNil
import GoSem.ClaimData
namespace Go.Proofs.YbulkdngeFmt
open Go.RowKit Go.Extern.Stop Go.Stop Go.Extern
set_option linter.unusedVariables false

theorem Ybaf.call25 (args : Array Value) (w : World) : (callFunc 25 args).run Ybaf.prog w = ((FmtStop.errorf #[9, 91] #[46] args).run Ybaf.prog w).andThen fun v w' => .ok (.value v) w' :=
  run_callFunc_extern Ybaf.func25 (by kernel_rfl) (by kernel_rfl) (by kernel_rfl) (by kernel_rfl) args w
theorem Ybaf.guard (name : String) (w : World) : (FmtStop.guard name).run Ybaf.prog w = .ok () w := by kernel_rfl
theorem Ybaf.fmt0 : FmtStop.printed? ⟨#[105, 110, 100, 101, 120, 32, 37, 115, 58, 32, 112, 114, 101, 100, 105, 99, 97, 116, 101, 58, 32, 37, 119]⟩ 2 = some [(0, 115, false), (1, 119, false)] := by kernel_rfl
theorem Ybaf.fmt0r (w : World) : (FmtDoors.printed ⟨#[105, 110, 100, 101, 120, 32, 37, 115, 58, 32, 112, 114, 101, 100, 105, 99, 97, 116, 101, 58, 32, 37, 119]⟩ 2).run Ybaf.prog w = .ok [(0, 115, false), (1, 119, false)] w := by kernel_rfl
def Ybaf.shape9 : List UInt8 := [12, 6, 0, 0, 0, 0, 0, 0, 0, 115, 116, 114, 105, 110, 103]
theorem Ybaf.op9_115w (name : String) (x : ByteArray) (w : World) : (FmtStop.operand name true 115 false (.iface 9 (.string x))).run Ybaf.prog w = .ok (Ybaf.shape9, FmtStop.pack x.data.toList) w := by kernel_rfl
/-- The error type's name: a star ahead of it. -/
def starErr : String := String.singleton (Char.ofNat 42) ++ "errors.errorString"
def Ybaf.plain60 : List UInt8 := 14 :: FmtStop.pack starErr.toUTF8.data.toList
theorem Ybaf.opPlain60_119w (name : String) (a : Addr) (s : ByteArray) (w : World) (hc : w.cell? a = some (.string s)) :
    (FmtStop.operand name true 119 false (.iface 60 (.pointer (some a)))).run Ybaf.prog w = .ok (Ybaf.plain60, s.data.toList) w := by
  have h1 : (typeStr 60).run Ybaf.prog w = .ok starErr w := by kernel_rfl
  have d2 : Ybaf.t60.desc = .pointer 62 := rfl
  have d3 : Ybaf.t62.desc = .named "errors.errorString" 61 := rfl
  simp [FmtStop.operand, h1, d2, d3, run_load, hc, Ybaf.plain60]
theorem Ybaf.isError60 (w : World) : (FmtDoors.textMethod 60 "Error").run Ybaf.prog w = .ok true w := by kernel_rfl
theorem Ybaf.str60 (w : World) : (typeStr 60).run Ybaf.prog w = .ok starErr w := by kernel_rfl
theorem Ybaf.ptr92 (w : World) : (FmtStop.ptrTo "fmt.wrapError").run Ybaf.prog w = .ok 92 w := by kernel_rfl
theorem Ybaf.elem92 (w : World) : (elemOf 92).run Ybaf.prog w = .ok 137 w := by kernel_rfl
theorem Ybaf.isError92 (w : World) : (FmtDoors.textMethod 92 "Error").run Ybaf.prog w = .ok true w := by kernel_rfl

set_option maxHeartbeats 2000000 in
set_option maxRecDepth 100000 in
theorem errorf_any (F : Interp) (w : World) (S : Nat) (nm s : ByteArray) (a : Addr) (hF : F.answers w.tape) (s0 : w.cell? ⟨S, 0, none⟩ = some (.iface 9 (.string nm))) (s1 : w.cell? ⟨S, 1, none⟩ = some (.iface 60 (.pointer (some a)))) (ha : w.cell? a = some (.string s)) :
    Calls Ybaf.prog 21 #[.string ⟨#[105, 110, 100, 101, 120, 32, 37, 115, 58, 32, 112, 114, 101, 100, 105, 99, 97, 116, 101, 58, 32, 37, 119]⟩, .slice (some ⟨S, 0, none⟩) 2 2] w fun e w' => ∃ t : ByteArray, e = .returned (.iface 92 (.pointer (some ⟨w.heap.size, 0, none⟩))) ∧
      w' = (w.alloc (Obj.cells #[.string t, .iface 60 (.pointer (some a))] 137)).drew := by
  have hF' := answers_open hF
  have h25 := Ybaf.call25
  have hgd := Ybaf.guard
  have hf0 := Ybaf.fmt0
  have hf0r := Ybaf.fmt0r
  have ho9 := Ybaf.op9_115w
  have hop := Ybaf.opPlain60_119w "fmt.errorf" a s _ ha
  have hie := Ybaf.isError60
  have hst := Ybaf.str60
  have hp92 := Ybaf.ptr92
  have he92 := Ybaf.elem92
  have hie2 := Ybaf.isError92
  go_enter Ybaf.func21, Ybaf.ntmps21
  go_wp2
  go_ret
  exact ⟨_, rfl, rfl⟩

set_option maxHeartbeats 4000000 in
set_option maxRecDepth 100000 in
theorem covers_err (F : Interp) (w : World) (X N E : Nat) (nm es : ByteArray) (cols : Value) (k i : Int) (fb : Nat) (s : ByteArray) (hF : F.answers w.tape) (h : Ix w X nm cols (.iface 48 (.pointer (some ⟨N, 0, none⟩)))) (hp : Pred w N k i fb s (.iface 60 (.pointer (some ⟨E, 0, none⟩)))) (hE : w.cell? ⟨E, 0, none⟩ = some (.string es)) (hX : X ≠ N) (hEN : E ≠ N) (a : Option Addr) (n c : Nat) :
    Calls Ybaf.prog 15 #[.pointer (some ⟨X, 0, none⟩), .slice a n c] w fun e w' => ∃ G, e = .returned (.tuple #[.bool false, .iface 92 (.pointer (some ⟨G, 0, none⟩))]) ∧ w'.cell? ⟨G, 1, none⟩ = some (.iface 60 (.pointer (some ⟨E, 0, none⟩))) ∧ w.heap.size ≤ G ∧ w'.cell? ⟨N, 5, none⟩ = some (.int .i64 1) ∧ w'.cell? ⟨N, 6, none⟩ = some (.int .i64 n) ∧ Kept (fun b => b = N) w w' := by
  have hIx := h
  obtain ⟨x0, x3, x6⟩ := h
  have hst := store_float .f64 fb
  go_enter Ybaf.func15, Ybaf.ntmps15
  go_wp2_with fail
  rw [andThen_known (r := ((46 : FuncId), Value.pointer (some ⟨N, 0, none⟩))) (w' := w) (by kernel_rfl)]
  go_wp2_with fail
  refine (eval_any w N k i fb s _ hp a n c).mono ?_
  rintro e w4 ⟨rfl, n5, n6, hK⟩
  clear x0 x3 x6
  have x0 := (hIx.kept hK hX).name
  have hX4 := cell_lt x0
  have hX4' : X < w4.heap.size := hX4
  have hE4 := hK.cell hE hEN
  clear hX4
  go_wp2_with fail
  have bb : Below w4.heap.size w4 ((w4.alloc (Obj.cells #[.int .u8 k, .int .i64 i, .float .f64 fb, .string s] 30)).alloc (Obj.cells #[.iface 9 (.string nm), .iface 60 (.pointer (some ⟨E, 0, none⟩))] 20)) := by
    repeat (first | exact Below.refl _ _ | refine Below.alloc ?_ (by simp <;> omega) _)
  obtain ⟨w5, hw5⟩ : ∃ w5, w5 = (w4.alloc (Obj.cells #[.int .u8 k, .int .i64 i, .float .f64 fb, .string s] 30)).alloc (Obj.cells #[.iface 9 (.string nm), .iface 60 (.pointer (some ⟨E, 0, none⟩))] 20) := ⟨_, rfl⟩
  have s0 : w5.cell? ⟨w4.heap.size + 1, 0, none⟩ = some (.iface 9 (.string nm)) := by rw [hw5]; simp [go_sem]
  have s1 : w5.cell? ⟨w4.heap.size + 1, 1, none⟩ = some (.iface 60 (.pointer (some ⟨E, 0, none⟩))) := by rw [hw5]; simp [go_sem]
  rw [← hw5] at bb ⊢
  clear hw5
  have n55 := (bb.cell (cell_lt n5)).trans n5
  have n65 := (bb.cell (cell_lt n6)).trans n6
  have hE5 := (bb.cell (cell_lt hE4)).trans hE4
  have hF5 : F.answers w5.tape := by rw [bb.tape, hK.tape]; exact hF
  have hK5 := hK.trans (Kept.of_below bb)
  refine (errorf_any F w5 (w4.heap.size + 1) nm es ⟨E, 0, none⟩ hF5 s0 s1 hE5).mono ?_
  rintro e w6 ⟨t, rfl, rfl⟩
  clear s0 s1 hE5 hE4 x0 n5 n6 hK hX4' hE hp hIx
  have bb2 : Below w5.heap.size w5 ((w5.alloc (Obj.cells #[.string t, .iface 60 (.pointer (some ⟨E, 0, none⟩))] 137)).drew) := ((Below.refl _ _).alloc (Nat.le_refl _) _).drew
  have g1 : ((w5.alloc (Obj.cells #[.string t, .iface 60 (.pointer (some ⟨E, 0, none⟩))] 137)).drew).cell? ⟨w5.heap.size, 1, none⟩ = some (.iface 60 (.pointer (some ⟨E, 0, none⟩))) := by simp [go_sem]
  have n56 := (bb2.cell (cell_lt n55)).trans n55
  have n66 := (bb2.cell (cell_lt n65)).trans n65
  have hK6 := hK5.trans (Kept.of_below bb2)
  have hG : w.heap.size ≤ w5.heap.size := hK5.size
  obtain ⟨w6, hw6⟩ : ∃ w6, w6 = (w5.alloc (Obj.cells #[.string t, .iface 60 (.pointer (some ⟨E, 0, none⟩))] 137)).drew := ⟨_, rfl⟩
  rw [← hw6] at bb2 g1 n56 n66 hK6 ⊢
  clear hw6 bb2 n55 n65
  go_wp2
  exact bodyPost_ret (v := .tuple #[.bool false, .iface 92 (.pointer (some ⟨w5.heap.size, 0, none⟩))]) (by simp [results, Ybaf.results15]) rfl ⟨_, rfl, g1, hG, n56, n66, hK6⟩
end Go.Proofs.YbulkdngeFmt
