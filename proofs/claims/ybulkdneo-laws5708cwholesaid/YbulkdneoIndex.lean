/-
  Seat b5708a: (*Home).oneTimeIndex.
-/
import Derived.Test.YbulkdneoBase
namespace Go.Proofs.Ybulkdneo
open Go.RowKit

/-- r is the least place of ps among Z 0 .. Z (n - 1), or -1. -/
def IsFirst (n : Nat) (Z : Nat → List Int) (ps : List Int) (r : Int) : Prop :=
  (r = -1 ∧ (ps = [] ∨ ∀ j, j < n → Z j ≠ ps)) ∨ ∃ k : Nat, k < n ∧ r = k ∧ ps ≠ [] ∧ Z k = ps ∧ ∀ j, j < k → Z j ≠ ps

theorem IsFirst.same {n : Nat} {Z : Nat → List Int} {ps : List Int} {r s : Int} (h : IsFirst n Z ps r) (g : IsFirst n Z ps s) : r = s := by
  rcases h with ⟨h1, h2⟩ | ⟨k, hk, h1, h2, h3, h4⟩
  · rcases g with ⟨g1, _⟩ | ⟨k', hk', g1, g2, g3, g4⟩
    · rw [h1, g1]
    · rcases h2 with h2 | h2
      · exact absurd h2 g2
      · exact absurd g3 (h2 k' hk')
  · rcases g with ⟨g1, g2⟩ | ⟨k', hk', g1, g2, g3, g4⟩
    · rcases g2 with g2 | g2
      · exact absurd g2 h2
      · exact absurd h3 (g2 k hk)
    · rcases Nat.lt_trichotomy k k' with hlt | rfl | hlt
      · exact absurd h3 (g4 k hlt)
      · rw [h1, g1]
      · exact absurd g3 (h4 k' hlt)

/-- The array of one-time prekeys at block B: n elements of five cells; element j's public key lies at its first cell. -/
structure Keys (w : World) (B n : Nat) (A : Nat → Option Addr) (L C : Nat → Nat) (Z : Nat → List Int) : Prop where
  c0 : ∀ j, j < n → w.cell? ⟨B, j * 5, none⟩ = some (.slice (A j) (L j) (C j))
  c1 : ∀ j, j < n → w.cell? ⟨B, j * 5 + 1, none⟩ = some (.slice none 0 0)
  c2 : ∀ j, j < n → w.cell? ⟨B, j * 5 + 1 + 1, none⟩ = some (.string ByteArray.empty)
  c3 : ∀ j, j < n → w.cell? ⟨B, j * 5 + 1 + 1 + 1, none⟩ = some (.bool false)
  c4 : ∀ j, j < n → w.cell? ⟨B, j * 5 + 1 + 1 + 1 + 1, none⟩ = some (.pointer none)
  row : ∀ j, j < n → Row w (A j) (L j) (C j) (Z j)

theorem Keys.below {w w' : World} {B n : Nat} {A : Nat → Option Addr} {L C : Nat → Nat} {Z : Nat → List Int} (h : Keys w B n A L C Z) (hb : Below w.heap.size w w') : Keys w' B n A L C Z :=
  ⟨fun j hj => (hb.cell (cell_lt (h.c0 j hj))).trans (h.c0 j hj), fun j hj => (hb.cell (cell_lt (h.c1 j hj))).trans (h.c1 j hj), fun j hj => (hb.cell (cell_lt (h.c2 j hj))).trans (h.c2 j hj),
   fun j hj => (hb.cell (cell_lt (h.c3 j hj))).trans (h.c3 j hj), fun j hj => (hb.cell (cell_lt (h.c4 j hj))).trans (h.c4 j hj), fun j hj => (h.row j hj).below hb⟩

set_option maxHeartbeats 400000 in
theorem index_any (w : World) (H B n : Nat) (ap : Option Addr) (np cp : Nat) (ps : List Int) (A : Nat → Option Addr) (L C : Nat → Nat) (Z : Nat → List Int)
    (hH : w.cell? ⟨H, 8, none⟩ = some (.slice (some ⟨B, 0, none⟩) n n)) (hn : n ≤ 1048576) (hnp : np ≤ 1048576) (hp : Row w ap np cp ps) (hk : Keys w B n A L C Z) :
    Calls Yba.prog 12 #[.pointer (some ⟨H, 0, none⟩), .slice ap np cp] w fun e w' => ∃ r : Int, e = .returned (.int .i64 r) ∧ IsFirst n Z ps r ∧ Below w.heap.size w w' := by
  go_enter Yba.func12, Yba.ntmps12
  go_wp2
  go_loopw [13] (fun i wr => ∃ k : Nat, k ≤ n ∧ i = .int .i64 k ∧ Hid (ps = [] ∨ ∀ j, j < k → Z j ≠ ps) ∧ Below w.heap.size w wr) (fun i _ => n - (intOf i).toNat)
  case atStart => exact ⟨0, Nat.zero_le _, rfl, .inr (fun j hj => by omega), Below.refl _ _⟩
  case round =>
    obtain ⟨k, hkn, rfl, hno, hb⟩ := hrel
    have hkr := hk.below hb
    have hpr := hp.below hb
    by_cases hlt : k < n
    · have q0 := hkr.c0 k hlt
      have q1 := hkr.c1 k hlt
      have q2 := hkr.c2 k hlt
      have q3 := hkr.c3 k hlt
      have q4 := hkr.c4 k hlt
      have qr := hkr.row k hlt
      clear hkr
      have hne : Hid (ps.length = np) := hp.len
      by_cases hp0 : np = 0
      · subst hp0
        go_wp2
        go_roundw
        case rel => exact ⟨k + 1, by omega, by go_num, .inl (List.eq_nil_of_length_eq_zero hne.out), hb.alloc hb.size _⟩
        case measure => simp [intOf]; omega
      · have hbz := (Below.refl wr.heap.size wr).alloc (Nat.le_refl _) (.cells #[.slice (A k) (L k) (C k), .slice none 0 0, .string ByteArray.empty, .bool false, .pointer none] 45)
        have qr1 := qr.below hbz
        have hp1 := hpr.below hbz
        by_cases hz : Z k = ps
        · have he : eqB (Z k) ps = true := by simp [eqB, hz]
          have hz' : Hid (Z k = ps) := hz
          clear hz
          go_wp2_with (go_at_call 15; refine (equal_any _ _ _ _ _ _ _ _ _ qr1 hp1).mono ?_; rintro e w' ⟨rfl, rfl⟩)
          go_ret
          refine ⟨k, rfl, .inr ⟨k, hlt, rfl, ?_, hz'.out, ?_⟩, hb.alloc hb.size _⟩
          · intro h; have := hne.out; rw [h] at this; simp at this; omega
          · rcases hno.out with h | h
            · have := hne.out; rw [h] at this; simp at this; omega
            · exact h
        · have he : eqB (Z k) ps = false := by simp [eqB, hz]
          have hz' : Hid (¬ Z k = ps) := hz
          clear hz
          go_wp2_with (go_at_call 15; refine (equal_any _ _ _ _ _ _ _ _ _ qr1 hp1).mono ?_; rintro e w' ⟨rfl, rfl⟩)
          go_roundw
          case rel =>
            refine ⟨k + 1, by omega, by go_num, ?_, hb.alloc hb.size _⟩
            rcases hno.out with h | h
            · exact .inl h
            · refine .inr fun j hj => ?_
              rcases Nat.lt_succ_iff_lt_or_eq.1 hj with h1 | rfl
              · exact h j h1
              · exact hz'.out
          case measure => simp [intOf]; omega
    · obtain rfl : k = n := by omega
      go_wp2
      go_ret
      exact ⟨-1, rfl, .inl ⟨rfl, hno.out⟩, hb⟩

end Go.Proofs.Ybulkdneo
