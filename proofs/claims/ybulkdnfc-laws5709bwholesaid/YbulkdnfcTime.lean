/-
  Seat b5709a: time.Time's Add, Compare, Equal at the instants that the law makes.
-/
import Derived.Test.YbulkdnfcRows
import Derived.WalkKit
import Derived.WalkSpells
import Derived.WalkLawsBesides
import Derived.Deep.QuietTactic
import Derived.BigQuiet
import Derived.Deep.OwnRows
import Derived.Deep.Cut
namespace Go.Proofs.Ybulkdnfc
open Go.RowKit

/-- time.Time{}.Add(a): its wall and ext, for a small a. -/
def wall (a : Int) : Int := if a < 0 then a + 1000000000 else a
def ext (a : Int) : Int := if a < 0 then -1 else 0

theorem bits_top (x : Int) (h0 : 0 ≤ x) (h1 : x < 1073741824) : bits .and .u64 x 9223372036854775808 = 0 := by
  obtain ⟨n, rfl⟩ := Int.eq_ofNat_of_zero_le h0
  have := bits_and_u64_nat n 9223372036854775808 (by omega) (by omega)
  rw [show ((9223372036854775808 : Nat) : Int) = 9223372036854775808 from rfl] at this
  rw [this]
  have e : n &&& 9223372036854775808 = 0 := by
    apply Nat.eq_of_testBit_eq
    intro i
    rw [Nat.testBit_and, show (9223372036854775808 : Nat) = 2 ^ 63 from rfl, Nat.testBit_two_pow]
    by_cases hi : 63 = i
    · subst hi
      have : n.testBit 63 = false := Nat.testBit_lt_two_pow (by omega)
      simp [this]
    · simp [hi]
  rw [e]; rfl

theorem bits_low (x : Int) (h0 : 0 ≤ x) (h1 : x < 1073741824) : bits .and .u64 x 1073741823 = x := by
  obtain ⟨n, rfl⟩ := Int.eq_ofNat_of_zero_le h0
  have := bits_and_u64_nat n 1073741823 (by omega) (by omega)
  rw [show ((1073741823 : Nat) : Int) = 1073741823 from rfl] at this
  rw [this, show (1073741823 : Nat) = 2 ^ 30 - 1 from rfl, Nat.and_two_pow_sub_one_eq_mod, Nat.mod_eq_of_lt (by omega)]

set_option maxHeartbeats 1000000 in
theorem nsec_any (w : World) (b : Nat) (x : Int) (h0 : 0 ≤ x) (h1 : x < 1073741824) (hc : w.cell? ⟨b, 0, none⟩ = some (.int .u64 x)) :
    Calls Yba.prog 17 #[.pointer (some ⟨b, 0, none⟩)] w fun e w' => e = .returned (.int .i32 x) ∧ w' = w := by
  have hb := bits_low x h0 h1
  go_enter Yba.func17, Yba.ntmps17
  go_wp2
  go_ret
  exact ⟨rfl, rfl⟩

set_option maxHeartbeats 1000000 in
theorem sec_any (w : World) (b : Nat) (x y : Int) (h0 : 0 ≤ x) (h1 : x < 1073741824) (hc : w.cell? ⟨b, 0, none⟩ = some (.int .u64 x)) (hc1 : w.cell? ⟨b, 1, none⟩ = some (.int .i64 y)) :
    Calls Yba.prog 16 #[.pointer (some ⟨b, 0, none⟩)] w fun e w' => e = .returned (.int .i64 y) ∧ w' = w := by
  have hb := bits_top x h0 h1
  have hne : ((0 : Int) != 0) = false := by simp
  go_enter Yba.func16, Yba.ntmps16
  go_wp2
  go_ret
  exact ⟨rfl, rfl⟩

set_option maxHeartbeats 1000000 in
theorem addSec_any (w : World) (b : Nat) (x d : Int) (h0 : 0 ≤ x) (h1 : x < 1073741824) (hd0 : -1 ≤ d) (hd1 : d ≤ 0) (hc : w.cell? ⟨b, 0, none⟩ = some (.int .u64 x)) (hc1 : w.cell? ⟨b, 1, none⟩ = some (.int .i64 0)) (hf : w.frozen? ⟨b, 1, none⟩ = false) :
    Calls Yba.prog 18 #[.pointer (some ⟨b, 0, none⟩), .int .i64 d] w fun e w' => e = .returned (.tuple #[]) ∧ w' = w.setCell ⟨b, 1, none⟩ (.int .i64 d) := by
  have hb := bits_top x h0 h1
  have hne : ((0 : Int) != 0) = false := by simp
  go_enter Yba.func18, Yba.ntmps18
  go_wp2
  go_end0
  exact ⟨rfl, rfl⟩

theorem bits_or0 (x : Int) (h0 : 0 ≤ x) (h1 : x < 1073741824) : bits .or .u64 0 x = x := by
  obtain ⟨n, rfl⟩ := Int.eq_ofNat_of_zero_le h0
  have := bits_or_u64_nat 0 n (by omega) (by omega)
  simpa using this
theorem bits_andNot0 : bits .andNot .u64 0 1073741823 = 0 := by decide +kernel

theorem tdiv_small (a : Int) (h0 : a < 0) (h1 : -128 ≤ a) : a.tdiv 1000000000 = 0 := by
  obtain ⟨n, hn⟩ := Int.eq_ofNat_of_zero_le (show 0 ≤ -a by omega)
  obtain rfl : a = -(n : Int) := by omega
  rw [Int.neg_tdiv, Int.tdiv_eq_ediv_of_nonneg (by omega)]
  omega
theorem tmod_small (a : Int) (h0 : a < 0) (h1 : -128 ≤ a) : a.tmod 1000000000 = a := by
  have := Int.mul_tdiv_add_tmod a 1000000000
  rw [tdiv_small a h0 h1] at this
  omega

set_option maxHeartbeats 1000000 in
theorem add_pos (w : World) (a : Int) (h0 : 0 ≤ a) (h1 : a ≤ 127) :
    Calls Yba.prog 9 #[.agg #[.int .u64 0, .int .i64 0, .pointer none], .int .i64 a] w fun e w' => e = .returned (.agg #[.int .u64 a, .int .i64 0, .pointer none]) ∧ Below w.heap.size w w' := by
  have hq : a / 1000000000 = 0 := by omega
  have hm : a % 1000000000 = a := by omega
  have hor := bits_or0 a h0 (by omega)
  have hand := bits_andNot0
  have hl := bits_low 0 (by omega) (by omega)
  go_enter Yba.func9, Yba.ntmps9
  have hb := bits_top a h0 (by omega)
  have hne : ((0 : Int) != 0) = false := by simp
  go_wp2
  go_end0
  go_wp2
  refine bodyPost_ret (v := .agg #[.int .u64 a, .int .i64 0, .pointer none]) (by simp [results, Yba.results9, go_sem]) rfl ⟨rfl, ?_⟩
  repeat (first | exact Below.refl _ _ | refine Below.setCell ?_ (by simp) _ | refine Below.alloc ?_ (by simp) _)

set_option maxHeartbeats 1000000 in
theorem add_neg (w : World) (a : Int) (h0 : a < 0) (h1 : -128 ≤ a) :
    Calls Yba.prog 9 #[.agg #[.int .u64 0, .int .i64 0, .pointer none], .int .i64 a] w fun e w' => e = .returned (.agg #[.int .u64 (a + 1000000000), .int .i64 (-1), .pointer none]) ∧ Below w.heap.size w w' := by
  have hq : a.tdiv 1000000000 = 0 := tdiv_small a h0 h1
  have hm : a.tmod 1000000000 = a := tmod_small a h0 h1
  have hor := bits_or0 (a + 1000000000) (by omega) (by omega)
  have hand := bits_andNot0
  have hl := bits_low 0 (by omega) (by omega)
  have hb := bits_top (a + 1000000000) (by omega) (by omega)
  have hne : ((0 : Int) != 0) = false := by simp
  go_enter Yba.func9, Yba.ntmps9
  go_wp2
  go_end0
  go_wp2
  refine bodyPost_ret (v := .agg #[.int .u64 (a + 1000000000), .int .i64 (-1), .pointer none]) (by simp [results, Yba.results9, go_sem]) rfl ⟨rfl, ?_⟩
  repeat (first | exact Below.refl _ _ | refine Below.setCell ?_ (by simp) _ | refine Below.alloc ?_ (by simp) _)

theorem add_any (w : World) (a : Int) (h0 : -128 ≤ a) (h1 : a ≤ 127) :
    Calls Yba.prog 9 #[.agg #[.int .u64 0, .int .i64 0, .pointer none], .int .i64 a] w fun e w' => e = .returned (.agg #[.int .u64 (wall a), .int .i64 (ext a), .pointer none]) ∧ Below w.heap.size w w' := by
  by_cases h : a < 0
  · simp only [wall, ext, if_pos h]; exact add_neg w a h h0
  · simp only [wall, ext, if_neg h]; exact add_pos w a (by omega) h1

theorem wall_bd (a : Int) (h0 : -128 ≤ a) (h1 : a ≤ 127) : 0 ≤ wall a ∧ wall a < 1073741824 := by
  unfold wall; split <;> omega

/-- The three-way comparison. -/
def cmp3 (a b : Int) : Int := if a < b then -1 else if b < a then 1 else 0

theorem bits_top2 (x y : Int) (h0 : 0 ≤ x) (h1 : x < 1073741824) (h2 : 0 ≤ y) (h3 : y < 1073741824) : bits .and .u64 (bits .and .u64 x y) 9223372036854775808 = 0 := by
  obtain ⟨n, rfl⟩ := Int.eq_ofNat_of_zero_le h0
  obtain ⟨m, rfl⟩ := Int.eq_ofNat_of_zero_le h2
  rw [bits_and_u64_nat n m (by omega) (by omega)]
  exact bits_top _ (by omega) (by have : n &&& m ≤ n := Nat.and_le_left; omega)

def cmpT (x y x' y' : Int) : Int := if y < y' then -1 else if y' < y then 1 else if x < x' then -1 else if x' < x then 1 else 0

theorem ret_int {k : IntKind} {a b : Int} (h : a = b) : Ending.returned (.int k a) = .returned (.int k b) := by rw [h]
theorem ret_bool {a b : Bool} (h : a = b) : Ending.returned (.bool a) = .returned (.bool b) := by rw [h]

set_option maxHeartbeats 1000000 in
/-- time.Compare at two instants given by their seconds and nanoseconds. -/
theorem compare_raw (w : World) (x y x' y' : Int) (h0 : 0 ≤ x) (h1 : x < 1073741824) (h2 : 0 ≤ x') (h3 : x' < 1073741824) :
    Calls Yba.prog 24 #[.agg #[.int .u64 x, .int .i64 y, .pointer none], .agg #[.int .u64 x', .int .i64 y', .pointer none]] w
      fun e w' => e = .returned (.int .i64 (cmpT x y x' y')) ∧ Below w.heap.size w w' := by
  have hb2 := bits_top2 x x' h0 h1 h2 h3
  have hb := bits_top x h0 h1
  have hb' := bits_top x' h2 h3
  have hl := bits_low x h0 h1
  have hl' := bits_low x' h2 h3
  have hne : ((0 : Int) != 0) = false := by simp
  rcases Int.lt_trichotomy y y' with c | c | c
  · have hA : Hid (-1 = cmpT x y x' y') := by show _ = _; rw [cmpT, if_pos c]
    have hq : (y == y') = false := beq_eq_false_iff_ne.2 (by omega)
    go_enter Yba.func24, Yba.ntmps24
    go_wp2
    go_ret
    refine ⟨ret_int hA.out, ?_⟩
    repeat (first | exact Below.refl _ _ | refine Below.alloc ?_ (by simp) _)
  · subst c
    have hq : (y == y) = true := by simp
    rcases Int.lt_trichotomy x x' with d | d | d
    · have hA : Hid (-1 = cmpT x y x' y) := by show _ = _; rw [cmpT, if_neg (by omega), if_neg (by omega), if_pos d]
      go_enter Yba.func24, Yba.ntmps24
      go_wp2
      go_ret
      refine ⟨ret_int hA.out, ?_⟩
      repeat (first | exact Below.refl _ _ | refine Below.alloc ?_ (by simp) _)
    · subst d
      have hA : Hid (0 = cmpT x y x y) := by show _ = _; rw [cmpT, if_neg (by omega), if_neg (by omega), if_neg (by omega), if_neg (by omega)]
      have hxx : ¬ x < x := by omega
      go_enter Yba.func24, Yba.ntmps24
      go_wp2
      go_ret
      refine ⟨ret_int hA.out, ?_⟩
      repeat (first | exact Below.refl _ _ | refine Below.alloc ?_ (by simp) _)
    · have hA : Hid (1 = cmpT x y x' y) := by show _ = _; rw [cmpT, if_neg (by omega), if_neg (by omega), if_neg (by omega), if_pos d]
      have hxx : ¬ x < x' := by omega
      go_enter Yba.func24, Yba.ntmps24
      go_wp2
      go_ret
      refine ⟨ret_int hA.out, ?_⟩
      repeat (first | exact Below.refl _ _ | refine Below.alloc ?_ (by simp) _)
  · have hA : Hid (1 = cmpT x y x' y') := by show _ = _; rw [cmpT, if_neg (by omega), if_pos c]
    have hq : (y == y') = false := beq_eq_false_iff_ne.2 (by omega)
    have hyy : ¬ y < y' := by omega
    go_enter Yba.func24, Yba.ntmps24
    go_wp2
    go_ret
    refine ⟨ret_int hA.out, ?_⟩
    repeat (first | exact Below.refl _ _ | refine Below.alloc ?_ (by simp) _)

theorem cmpT_eq (a b : Int) (h0 : -128 ≤ a) (h1 : a ≤ 127) (h2 : -128 ≤ b) (h3 : b ≤ 127) : cmpT (wall a) (ext a) (wall b) (ext b) = cmp3 a b := by
  unfold cmpT cmp3 wall ext
  by_cases ha : a < 0 <;> by_cases hb : b < 0 <;> simp only [ha, hb, if_true, if_false] <;> repeat' split
  all_goals omega

theorem compare_any (w : World) (a b : Int) (h0 : -128 ≤ a) (h1 : a ≤ 127) (h2 : -128 ≤ b) (h3 : b ≤ 127) :
    Calls Yba.prog 24 #[.agg #[.int .u64 (wall a), .int .i64 (ext a), .pointer none], .agg #[.int .u64 (wall b), .int .i64 (ext b), .pointer none]] w
      fun e w' => e = .returned (.int .i64 (cmp3 a b)) ∧ Below w.heap.size w w' := by
  have := compare_raw w (wall a) (ext a) (wall b) (ext b) (wall_bd a h0 h1).1 (wall_bd a h0 h1).2 (wall_bd b h2 h3).1 (wall_bd b h2 h3).2
  rwa [cmpT_eq a b h0 h1 h2 h3] at this

set_option maxHeartbeats 1000000 in
/-- time.Equal of an instant and itself. -/
theorem equal_raw (w : World) (x y : Int) (h0 : 0 ≤ x) (h1 : x < 1073741824) :
    Calls Yba.prog 8 #[.agg #[.int .u64 x, .int .i64 y, .pointer none], .agg #[.int .u64 x, .int .i64 y, .pointer none]] w
      fun e w' => e = .returned (.bool true) ∧ Below w.heap.size w w' := by
  have hb2 := bits_top2 x x h0 h1 h0 h1
  have hb := bits_top x h0 h1
  have hl := bits_low x h0 h1
  have hne : ((0 : Int) != 0) = false := by simp
  have hq : (y == y) = true := by simp
  have hq2 : (x == x) = true := by simp
  go_enter Yba.func8, Yba.ntmps8
  go_wp2
  go_ret
  refine ⟨rfl, ?_⟩
  repeat (first | exact Below.refl _ _ | refine Below.alloc ?_ (by simp) _)

theorem equal_any (w : World) (a : Int) (h0 : -128 ≤ a) (h1 : a ≤ 127) :
    Calls Yba.prog 8 #[.agg #[.int .u64 (wall a), .int .i64 (ext a), .pointer none], .agg #[.int .u64 (wall a), .int .i64 (ext a), .pointer none]] w
      fun e w' => e = .returned (.bool true) ∧ Below w.heap.size w w' :=
  equal_raw w _ _ (wall_bd a h0 h1).1 (wall_bd a h0 h1).2

end Go.Proofs.Ybulkdnfc
