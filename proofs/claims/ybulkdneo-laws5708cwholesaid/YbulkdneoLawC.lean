/-
  Seat b5708a: the walk of LawS5708CWhole.
-/
import Derived.Test.YbulkdneoFill
import Derived.Deep.DeepCutAuto
namespace Go.Proofs.Ybulkdneo
open Go.RowKit

/-- What came in as 'keys': n byte slices. -/
structure KeysIn (w : World) (ak : Option Addr) (n : Nat) (A : Nat → Option Addr) (L C : Nat → Nat) (Z : Nat → List Int) : Prop where
  spot : 0 < n → ∃ b off, ak = some ⟨b, off, none⟩ ∧ ∀ j, j < n → w.cell? ⟨b, off + j, none⟩ = some (.slice (A j) (L j) (C j))
  row : ∀ j, j < n → Row w (A j) (L j) (C j) (Z j)
  bd : ∀ j, j < n → L j ≤ 140737488351232

theorem KeysIn.below {w w' : World} {ak : Option Addr} {n : Nat} {A : Nat → Option Addr} {L C : Nat → Nat} {Z : Nat → List Int} (h : KeysIn w ak n A L C Z) (hb : Below w.heap.size w w') : KeysIn w' ak n A L C Z :=
  ⟨fun hn => by
    obtain ⟨b, off, e, hc⟩ := h.spot hn
    exact ⟨b, off, e, fun j hj => (hb.cell (cell_lt (hc j hj))).trans (hc j hj)⟩, fun j hj => (h.row j hj).below hb, h.bd⟩

set_option maxHeartbeats 1000000 in
set_option maxRecDepth 100000 in
theorem lawC_walk (w : World) (ak ab : Option Addr) (n ck nb cb : Nat) (sel : Int) (pick : Bool) (A : Nat → Option Addr) (L C : Nat → Nat) (Z : Nat → List Int) (bs : List Int)
    (hk : KeysIn w ak n A L C Z) (hb : Row w ab nb cb bs) (hn : n ≤ 140737488351232) (hnb : nb ≤ 140737488351232) (hs0 : 0 ≤ sel) (hs1 : sel ≤ 255) :
    Calls Yba.prog 4 #[.slice ak n ck, .slice ab nb cb, .int .u8 sel, .bool pick] w fun e w' => e = .returned (.bool true) ∧ Below w.heap.size w w' := by
  go_enter Yba.func4, Yba.ntmps4
  go_wp2
  go_loop [9, 10] (fun t i => ∃ k s : Nat, k ≤ n ∧ i = .int .i64 k ∧ t = .int .i64 s ∧ nb + n ≤ s ∧ s ≤ 281474976710656 ∧ Hid (∀ j, j < k → L j ≤ s)) (fun _ i => n - (intOf i).toNat)
  case atStart => exact ⟨0, nb + n, Nat.zero_le _, rfl, by simp, Nat.le_refl _, by omega, fun j hj => by omega⟩
  case round =>
    obtain ⟨k, s, hkn, rfl, rfl, hs, hs2, hL⟩ := hrel
    by_cases hlt : k < n
    · obtain ⟨b, off, rfl, hc⟩ := hk.spot (by omega)
      have q := hc k hlt
      have qb := hk.bd k hlt
      clear hc
      go_wp2
      · go_ret
        exact ⟨rfl, Below.refl _ _⟩
      · go_round
        case rel =>
          refine ⟨k + 1, s + L k, by omega, by go_num, by go_num, by omega, by omega, fun j hj => ?_⟩
          rcases Nat.lt_succ_iff_lt_or_eq.1 hj with h1 | rfl
          · have := hL.out j h1; omega
          · omega
        case measure => simp [intOf]; omega
    · obtain rfl : k = n := by omega
      by_cases hbig : 1048576 < s
      · have hbig' : (1048576 : Int) < (s : Int) := by omega
        go_wp2
        go_ret
        exact ⟨rfl, Below.refl _ _⟩
      · have hbig' : ¬ (1048576 : Int) < (s : Int) := by omega
        have hLs : Hid (∀ j, j < k → L j ≤ 1048576) := fun j hj => by have := hL.out j hj; omega
        go_upto_region 11 with fail
        go_cut [3, 48] (fun _ b wr => w = wr ∧ ∃ q : Bool, b = .bool q ∧ (q = true → 0 < k))
        case first =>
          by_cases hpk : pick = true
          · subst hpk
            by_cases h0 : 0 < k
            · have hd : (0 : Int) < (k : Int) := by omega
              go_wp2
              go_meet
              case rel => exact ⟨rfl, true, rfl, fun _ => h0⟩
            · have hd : decide ((0 : Int) < (k : Int)) = false := decide_eq_false (by omega)
              go_wp2
              go_meet
              case rel => exact ⟨rfl, false, rfl, fun h => by simp at h⟩
          · obtain rfl : pick = false := by simpa using hpk
            go_wp2
            go_meet
            case rel => exact ⟨rfl, false, rfl, fun h => by simp at h⟩
        case rest =>
          obtain ⟨rfl, q, rfl, hq⟩ := hcut
          go_upto_if 48 with fail
          go_cut [11] (fun p wr => Below w.heap.size w wr ∧ ∃ (ap : Option Addr) (np cp : Nat) (ps : List Int), p = .slice ap np cp ∧ np ≤ 1048576 ∧ Row wr ap np cp ps)
          case first =>
            cases hqq : q with
            | false =>
              subst hqq
              go_wp2
              go_meet
              case rel => exact ⟨Below.refl _ _, _, _, _, _, rfl, by omega, hb⟩
            | true =>
              subst hqq
              have h0 := hq rfl
              obtain ⟨b, off, rfl, hc⟩ := hk.spot h0
              have hr0 : 0 ≤ sel % (k : Int) := Int.emod_nonneg _ (by omega)
              have hr1 : sel % (k : Int) < (k : Int) := Int.emod_lt_of_pos _ (by omega)
              have hr2 : (sel % (k : Int)).toNat < k := by omega
              have qr := hk.row _ hr2
              have qL : L (sel % (k : Int)).toNat ≤ 1048576 := hLs.out _ hr2
              have qc := hc _ hr2
              clear hc
              go_wp2_with (go_at_call 11; refine (clonec_any _ _ _ _ _ qr (by omega)).mono ?_; rintro e w' ⟨ao', c', rfl, hrow, hnil, hbel, hfr⟩)
              go_meet
              case rel => exact ⟨hbel, _, _, _, _, rfl, qL, hrow⟩
          case rest =>
            obtain ⟨hbel, ap, np, cp, ps, rfl, hnp, hp⟩ := hcut
            have hk20 : k ≤ 1048576 := by omega
            clear hL hs2 hbig hbig' hlt hkn hs0 hs1 hq
            go_wp2_with fail
            refine (clonec_any _ _ _ _ _ hp (by omega)).mono ?_
            rintro e w2 ⟨ac, cc, rfl, hpc, hpnil, hbel2, -⟩
            have hp2 := hp.below hbel2
            have hB2 : Below w.heap.size w w2 := hbel.trans (hbel2.mono hbel.size)
            have hmk := run_make_ot k (by omega)
            clear hp hb
            go_upto_region 15 with fail
            clear hmk
            go_wp2
            go_loopw [14] (fun i wr => ∃ (m : Nat) (f : Nat → Value), m ≤ k ∧ i = .int .i64 m ∧ Fill w2 wr k m L Z f) (fun i _ => k - (intOf i).toNat)
            case atStart => exact ⟨0, _, Nat.zero_le _, rfl, Fill.start w2 k L Z⟩
            case round =>
              obtain ⟨m, f, hmk, rfl, hfill⟩ := hrel
              have hBr : Below w.heap.size w wr := hB2.trans (hfill.bel.mono hB2.size)
              by_cases hlt : m < k
              · have hkr := hk.below hBr
                obtain ⟨b, off, rfl, hc⟩ := hkr.spot (by omega)
                have q := hc m hlt
                have qr := hkr.row m hlt
                have qL : L m ≤ 1048576 := hLs.out m hlt
                clear hc hkr
                go_wp2_with (go_at_call 11; refine (clonec_any _ _ _ _ _ qr (by omega)).mono ?_; rintro e w1 ⟨ao', c', rfl, hrow, hnil, hbw, hfr⟩; have hnx := hfill.next hlt hbw; obtain ⟨hn1, hn2⟩ := hnx)
                go_roundw
                case rel => exact ⟨m + 1, _, by omega, by go_num, hfill.step hbw hrow hfr⟩
                case measure => simp [intOf]; omega
              · obtain rfl : m = k := by omega
                clear hlt hmk
                obtain ⟨A', C', hkeys⟩ := hfill.keys
                have hp3 := hp2.below hfill.bel
                have hpc3 := hpc.below hfill.bel
                have hk3 := hk.below hBr
                go_wp2_with fail
                have hbx := (Below.refl wr.heap.size wr).alloc (Nat.le_refl _) (Obj.cells #[Value.string { data := #[] }, Value.pointer none, Value.string { data := #[] }, Value.slice none 0 0, Value.slice none 0 0, Value.slice none 0 0, Value.slice none 0 0, Value.string { data := #[] }, Value.slice (some { block := w2.heap.size, off := 0 }) m m, Value.string { data := #[] }, Value.pointer none] 54)
                have hHx : (wr.alloc (Obj.cells #[Value.string { data := #[] }, Value.pointer none, Value.string { data := #[] }, Value.slice none 0 0, Value.slice none 0 0, Value.slice none 0 0, Value.slice none 0 0, Value.string { data := #[] }, Value.slice (some { block := w2.heap.size, off := 0 }) m m, Value.string { data := #[] }, Value.pointer none] 54)).cell? ⟨wr.heap.size, 8, none⟩ = some (Value.slice (some { block := w2.heap.size, off := 0 }) m m) := by simp [go_sem]
                refine (index_any _ wr.heap.size w2.heap.size m ap np cp ps A' L C' Z hHx hk20 hnp (hp3.below hbx) (hkeys.below hbx)).mono ?_
                rintro e w4 ⟨r, rfl, hfirst, hb4⟩
                have hb4' : Below wr.heap.size wr w4 := hbx.trans (hb4.mono (by simp))
                have hH4 : w4.cell? ⟨wr.heap.size, 8, none⟩ = some (Value.slice (some { block := w2.heap.size, off := 0 }) m m) := (hb4.cell (cell_lt hHx)).trans hHx
                have hp4 := hp3.below hb4'
                have hpc4 := hpc3.below hb4'
                have hk4 := hk3.below hb4'
                have hkeys4 := hkeys.below hb4'
                have hB4 : Below w.heap.size w w4 := hBr.trans (hb4'.mono hBr.size)
                clear hbx hHx hp3 hpc3 hk3 hkeys hb4 hb4' hBr hfill hp2 hpc hbel hbel2
                go_upto_if 88 with fail
                go_cut [17] (fun v wx => Below w4.heap.size w4 wx ∧ ∃ r2 : Int, v = .int .i64 r2 ∧ IsFirst m Z ps r2)
                case first =>
                  have hpl : Hid (ps.length = np) := hp4.len
                  by_cases hp0 : np = 0
                  · subst hp0
                    go_wp2
                    go_meet
                    case rel => exact ⟨Below.refl _ _, -1, rfl, .inl ⟨rfl, .inl (List.eq_nil_of_length_eq_zero hpl.out)⟩⟩
                  · have hp1 : (0 : Int) < (np : Int) := by omega
                    have hd : decide (0 < np) = true := decide_eq_true (by omega)
                    simp only [hd]
                    clear hd
                    go_wp2
                    go_loopw [17, 18] (fun v i wx => v = .int .i64 (-1) ∧ Below w4.heap.size w4 wx ∧ ∃ g : Nat, g ≤ m ∧ i = .int .i64 g ∧ Hid (∀ j, j < g → Z j ≠ ps)) (fun _ i _ => m - (intOf i).toNat)
                    case atStart => exact ⟨rfl, Below.refl _ _, 0, Nat.zero_le _, rfl, fun j hj => by omega⟩
                    case round =>
                      obtain ⟨rfl, hbx, g, hgm, rfl, hno⟩ := hrel
                      by_cases hlt : g < m
                      · have hkx := hk4.below hbx
                        obtain ⟨b, off, rfl, hc⟩ := hkx.spot (by omega)
                        have q := hc g hlt
                        have qr := hkx.row g hlt
                        have qp := hp4.below hbx
                        have qL : L g ≤ 1048576 := hLs.out g hlt
                        clear hc hkx
                        by_cases hz : Z g = ps
                        · have he : eqB (Z g) ps = true := by simp [eqB, hz]
                          have hz' : Hid (Z g = ps) := hz
                          clear hz
                          go_wp2_with (go_at_call 13; refine (eqc_any _ _ _ _ _ _ _ _ _ qr qp (by omega) (by omega)).mono ?_; rintro e w' ⟨rfl, d2, rfl⟩)
                          go_meet
                          case rel =>
                            refine ⟨below_drewN hbx _, g, rfl, .inr ⟨g, hlt, rfl, fun h => ?_, hz'.out, hno.out⟩⟩
                            have := hpl.out
                            rw [h] at this
                            simp at this
                            omega
                        · have he : eqB (Z g) ps = false := by simp [eqB, hz]
                          have hz' : Hid (¬ Z g = ps) := hz
                          clear hz
                          go_wp2_with (go_at_call 13; refine (eqc_any _ _ _ _ _ _ _ _ _ qr qp (by omega) (by omega)).mono ?_; rintro e w' ⟨rfl, d2, rfl⟩)
                          go_roundw
                          case rel =>
                            refine ⟨rfl, below_drewN hbx _, g + 1, by omega, by go_num, fun j hj => ?_⟩
                            rcases Nat.lt_succ_iff_lt_or_eq.1 hj with h1 | rfl
                            · exact hno.out j h1
                            · exact hz'.out
                          case measure => simp [intOf]; omega
                      · obtain rfl : g = m := by omega
                        go_wp2
                        go_meet
                        case rel => exact ⟨hbx, -1, rfl, .inl ⟨rfl, .inr hno.out⟩⟩
                case rest =>
                  obtain ⟨hb5, r2, rfl, hfirst2⟩ := hcut
                  obtain rfl := hfirst.same hfirst2
                  have hrr : (r != r) = false := by simp
                  have hee : eqB ps ps = true := by simp [eqB]
                  have hn1 := fun wx => Lib.run_eql_slice_nil (P := Yba.prog) wx 23 5 ap np cp 0 0 Yba.underlying23
                  have hn2 := fun wx => Lib.run_eql_slice_nil (P := Yba.prog) wx 23 5 ac np cc 0 0 Yba.underlying23
                  rw [hpnil] at hn2
                  have hbb : (ap.isNone != ap.isNone) = false := by simp
                  generalize ap.isNone = bn at hn1 hn2 hbb
                  have hmm : ((m : Int) != (m : Int)) = false := by simp
                  have hH5 := (hb5.cell (cell_lt hH4)).trans hH4
                  have hp5 := hp4.below hb5
                  have hpc5 := hpc4.below hb5
                  have hk5 := hk4.below hb5
                  have hkeys5 := hkeys4.below hb5
                  have hB5 : Below w.heap.size w wc := hB4.trans (hb5.mono hB4.size)
                  clear hpnil hH4 hp4 hpc4 hk4 hkeys4 hB4 hb5
                  go_wp2_with (go_at_call 13; refine (eqc_any _ _ _ _ _ _ _ _ _ hp5 hpc5 (by omega) (by omega)).mono ?_; rintro e w' ⟨rfl, d2, rfl⟩)
                  clear hn1 hn2 hbb hfirst hfirst2 hrr hpc5 hp5 hee hmm
                  go_loopw [19] (fun i wx => Below wc.heap.size wc wx ∧ ∃ g : Nat, g ≤ m ∧ i = .int .i64 g) (fun i _ => m - (intOf i).toNat)
                  case atStart => exact ⟨below_drewN (Below.refl _ _) _, 0, Nat.zero_le _, rfl⟩
                  case round =>
                    obtain ⟨hbx, g, hgm, rfl⟩ := hrel
                    by_cases hlt : g < m
                    · have hkx := hk5.below hbx
                      have hkeysx := hkeys5.below hbx
                      have hHx := (hbx.cell (cell_lt hH5)).trans hH5
                      obtain ⟨b, off, rfl, hc⟩ := hkx.spot (by omega)
                      have q := hc g hlt
                      have q' := hkeysx.c0 g hlt
                      have qr := hkx.row g hlt
                      have qk := hkeysx.row g hlt
                      have qL : L g ≤ 1048576 := hLs.out g hlt
                      have hgi : (g : Int) < (m : Int) := by omega
                      have he : eqB (Z g) (Z g) = true := by simp [eqB]
                      clear hc hkeysx hkx hkeys5 hk5
                      go_wp2_with fail
                      go_quiet ((go_at_call 13; exact Calls.quiet_of (eqc_any _ _ _ _ _ _ _ _ _ (qk.drewN _) (qr.drewN _) (by omega) (by omega))))
                      go_wp2
                      go_roundw
                      case rel => exact ⟨below_drewN hbx _, g + 1, by omega, by go_num⟩
                      case measure => simp [intOf]; omega
                    · obtain rfl : g = m := by omega
                      go_wp2
                      go_ret
                      exact ⟨rfl, hB5.trans (hbx.mono hB5.size)⟩

end Go.Proofs.Ybulkdneo
