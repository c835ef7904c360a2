/-
  Seat b5708a: the walk of LawS5708AWhole.
-/
import Derived.Test.YbulkdneoRoundA
import Derived.Deep.DeepCutAuto
namespace Go.Proofs.Ybulkdneo
open Go.RowKit

/-- A byte slice that came in: within the form's reach. -/
def SRb (w : World) (s : Sl) : Prop := Row w s.a s.n s.c s.z ∧ s.n ≤ 140737488351232
theorem SRb.small {w : World} {s : Sl} (h : SRb w s) (hn : s.n ≤ 1048576) : SR w s := ⟨h.1, hn⟩
theorem SRb.below {w w' : World} {s : Sl} (h : SRb w s) (hb : Below w.heap.size w w') : SRb w' s := ⟨h.1.below hb, h.2⟩

/-- What came in as 'entries': n structs of eight cells. -/
structure Ents (w : World) (ae : Option Addr) (n : Nat) (E : Nat → Nat → Sl) (X Y M : Nat → Bool) : Prop where
  nil : ae = none → n = 0
  spot : 0 < n → ∃ b off, ae = some ⟨b, off, none⟩ ∧ ∀ j, j < n → w.cell? ⟨b, off + j * 8, none⟩ = some (.slice (E j 0).a (E j 0).n (E j 0).c) ∧ w.cell? ⟨b, off + j * 8 + 1, none⟩ = some (.slice (E j 1).a (E j 1).n (E j 1).c) ∧
    w.cell? ⟨b, off + j * 8 + 1 + 1, none⟩ = some (.slice (E j 2).a (E j 2).n (E j 2).c) ∧ w.cell? ⟨b, off + j * 8 + 1 + 1 + 1, none⟩ = some (.slice (E j 3).a (E j 3).n (E j 3).c) ∧ w.cell? ⟨b, off + j * 8 + 1 + 1 + 1 + 1, none⟩ = some (.slice (E j 4).a (E j 4).n (E j 4).c) ∧
    w.cell? ⟨b, off + j * 8 + 1 + 1 + 1 + 1 + 1, none⟩ = some (.bool (X j)) ∧ w.cell? ⟨b, off + j * 8 + 1 + 1 + 1 + 1 + 1 + 1, none⟩ = some (.bool (Y j)) ∧ w.cell? ⟨b, off + j * 8 + 1 + 1 + 1 + 1 + 1 + 1 + 1, none⟩ = some (.bool (M j))
  row : ∀ j, j < n → ∀ i, i < 5 → SRb w (E j i)

theorem Ents.below {w w' : World} {ae : Option Addr} {n : Nat} {E : Nat → Nat → Sl} {X Y M : Nat → Bool} (h : Ents w ae n E X Y M) (hb : Below w.heap.size w w') : Ents w' ae n E X Y M := by
  refine ⟨h.nil, fun hn => ?_, fun j hj i hi => (h.row j hj i hi).below hb⟩
  obtain ⟨b, off, e, hc⟩ := h.spot hn
  refine ⟨b, off, e, fun j hj => ?_⟩
  obtain ⟨c0, c1, c2, c3, c4, c5, c6, c7⟩ := hc j hj
  exact ⟨(hb.cell (cell_lt c0)).trans c0, (hb.cell (cell_lt c1)).trans c1, (hb.cell (cell_lt c2)).trans c2, (hb.cell (cell_lt c3)).trans c3, (hb.cell (cell_lt c4)).trans c4, (hb.cell (cell_lt c5)).trans c5, (hb.cell (cell_lt c6)).trans c6, (hb.cell (cell_lt c7)).trans c7⟩

theorem FirstB.congr {n : Nat} {p q : Nat → Bool} {r : Int} (h : FirstB n p r) (e : ∀ j, j < n → p j = q j) : FirstB n q r := by
  rcases h with ⟨h1, h2⟩ | ⟨k, hk, h1, h2, h3⟩
  · exact .inl ⟨h1, fun j hj => (e j hj).symm.trans (h2 j hj)⟩
  · exact .inr ⟨k, hk, h1, (e k hk).symm.trans h2, fun j hj => (e j (by omega)).symm.trans (h3 j hj)⟩

/-- The variable 'init' at block J: four byte slices. -/
structure InitAt (w : World) (J : Nat) (I0 I1 I2 I3 : Sl) : Prop where
  c0 : w.cell? ⟨J, 0, none⟩ = some (.slice I0.a I0.n I0.c)
  c1 : w.cell? ⟨J, 1, none⟩ = some (.slice I1.a I1.n I1.c)
  c2 : w.cell? ⟨J, 2, none⟩ = some (.slice I2.a I2.n I2.c)
  c3 : w.cell? ⟨J, 3, none⟩ = some (.slice I3.a I3.n I3.c)
  r0 : SR w I0
  r1 : SR w I1
  r2 : SR w I2
  r3 : SR w I3
theorem InitAt.below {w w' : World} {J : Nat} {I0 I1 I2 I3 : Sl} (h : InitAt w J I0 I1 I2 I3) (hb : Below w.heap.size w w') : InitAt w' J I0 I1 I2 I3 :=
  ⟨(hb.cell (cell_lt h.c0)).trans h.c0, (hb.cell (cell_lt h.c1)).trans h.c1, (hb.cell (cell_lt h.c2)).trans h.c2, (hb.cell (cell_lt h.c3)).trans h.c3, h.r0.below hb, h.r1.below hb, h.r2.below hb, h.r3.below hb⟩

set_option maxHeartbeats 2000000 in
set_option maxRecDepth 100000 in
theorem lawA_walk (w : World) (ae : Option Addr) (n ce : Nat) (E : Nat → Nat → Sl) (X Y M : Nat → Bool) (D0 D1 D2 D3 : Sl) (hE : Ents w ae n E X Y M) (hn : n ≤ 140737488351232) (d0 : SRb w D0) (d1 : SRb w D1) (d2 : SRb w D2) (d3 : SRb w D3) :
    Calls Yba.prog 3 #[.slice ae n ce, .slice D0.a D0.n D0.c, .slice D1.a D1.n D1.c, .slice D2.a D2.n D2.c, .slice D3.a D3.n D3.c] w fun e w' => e = .returned (.bool true) ∧ Below w.heap.size w w' := by
  have l0 := d0.2
  have l1 := d1.2
  have l2 := d2.2
  have l3 := d3.2
  go_enter Yba.func3, Yba.ntmps3
  go_wp2
  go_loopw [11, 12] (fun t i wr => Below w.heap.size w wr ∧ ∃ k s : Nat, k ≤ n ∧ i = .int .i64 k ∧ t = .int .i64 s ∧ n + D0.n + D1.n + D2.n + D3.n ≤ s ∧ s ≤ 703687441756160 ∧ Hid (∀ j, j < k → ∀ i, i < 5 → (E j i).n ≤ s)) (fun _ i _ => n - (intOf i).toNat)
  case atStart => exact ⟨Below.refl _ _, 0, n + D0.n + D1.n + D2.n + D3.n, Nat.zero_le _, rfl, by go_num, Nat.le_refl _, by omega, fun j hj => by omega⟩
  case round =>
    obtain ⟨hb, k, s, hkn, rfl, rfl, hs, hs2, hL⟩ := hrel
    by_cases hlt : k < n
    · have hEr := hE.below hb
      obtain ⟨b, off, rfl, hc⟩ := hEr.spot (by omega)
      obtain ⟨c0, c1, c2, c3, c4, c5, c6, c7⟩ := hc k hlt
      have m0 := (hE.row k hlt 0 (by omega)).2
      have m1 := (hE.row k hlt 1 (by omega)).2
      have m2 := (hE.row k hlt 2 (by omega)).2
      have m3 := (hE.row k hlt 3 (by omega)).2
      have m4 := (hE.row k hlt 4 (by omega)).2
      clear hc hEr
      go_wp2
      · go_ret
        exact ⟨rfl, hb.alloc hb.size _⟩
      · go_roundw
        case rel =>
          refine ⟨hb.alloc hb.size _, k + 1, s + ((E k 0).n + (E k 1).n + (E k 2).n + (E k 3).n + (E k 4).n), by omega, by go_num, by go_num, by omega, by omega, fun j hj i hi => ?_⟩
          rcases Nat.lt_succ_iff_lt_or_eq.1 hj with h1 | rfl
          · have := hL.out j h1 i hi; omega
          · match i, hi with
            | 0, _ => omega
            | 1, _ => omega
            | 2, _ => omega
            | 3, _ => omega
            | 4, _ => omega
        case measure => simp [intOf]; omega
    · obtain rfl : k = n := by omega
      by_cases hbig : 1048576 < s
      · have hbig' : (1048576 : Int) < (s : Int) := by omega
        go_wp2
        go_ret
        exact ⟨rfl, hb⟩
      · have hbig' : ¬ (1048576 : Int) < (s : Int) := by omega
        have hLs : Hid (∀ j, j < k → ∀ i, i < 5 → (E j i).n ≤ 1048576) := fun j hj i hi => by have := hL.out j hj i hi; omega
        have hk20 : k ≤ 1048576 := by omega
        have s0 := (d0.small (by omega)).below hb
        have s1 := (d1.small (by omega)).below hb
        have s2 := (d2.small (by omega)).below hb
        have s3 := (d3.small (by omega)).below hb
        have hEr := hE.below hb
        clear hL hs2 hlt hkn d0 d1 d2 d3 l0 l1 l2 l3 hn
        go_wp2_with fail
        clear hbig hbig' hs
        refine (clone_at _ _ D0 (Below.refl _ _) s0).mono ?_
        rintro e w1 ⟨I0, rfl, i0, z0, b1, _⟩
        have Z0 : Hid (I0.z = D0.z) := z0
        clear z0
        go_wp2_with fail
        refine (clone_at _ _ D1 b1 s1).mono ?_
        rintro e w2 ⟨I1, rfl, i1, z1, b2, _⟩
        have Z1 : Hid (I1.z = D1.z) := z1
        have B2 := b1.trans (b2.mono b1.size)
        clear z1
        go_wp2_with fail
        refine (clone_at _ _ D2 B2 s2).mono ?_
        rintro e w3 ⟨I2, rfl, i2, z2, b3, _⟩
        have Z2 : Hid (I2.z = D2.z) := z2
        have B3 := B2.trans (b3.mono B2.size)
        clear z2
        go_wp2_with fail
        refine (clone_at _ _ D3 B3 s3).mono ?_
        rintro e w4 ⟨I3, rfl, i3, z3, b4, _⟩
        have Z3 : Hid (I3.z = D3.z) := z3
        have B4 := B3.trans (b4.mono B3.size)
        clear z3
        go_upto_region 12 with fail
        obtain ⟨w5, hw5⟩ : ∃ w5, w5 = w4.alloc (Obj.cells #[.slice I0.a I0.n I0.c, .slice I1.a I1.n I1.c, .slice I2.a I2.n I2.c, .slice I3.a I3.n I3.c] 29) := ⟨_, rfl⟩
        have b5 : Below w4.heap.size w4 w5 := by rw [hw5]; exact (Below.refl _ _).alloc (Nat.le_refl _) _
        have hI : InitAt w5 w4.heap.size I0 I1 I2 I3 := by
          refine ⟨?_, ?_, ?_, ?_, (((i0.below b2).below b3).below b4).below b5, ((i1.below b3).below b4).below b5, (i2.below b4).below b5, i3.below b5⟩
          · rw [hw5]; simp [go_sem]
          · rw [hw5]; simp [go_sem]
          · rw [hw5]; simp [go_sem]
          · rw [hw5]; simp [go_sem]
        rw [← hw5]
        have Br : Below wr.heap.size wr w5 := B4.trans (b5.mono B4.size)
        have B5 : Below w.heap.size w w5 := hb.trans (Br.mono hb.size)
        have hE5 := hEr.below Br
        have e0 := s0.below Br
        have e1 := s1.below Br
        have e2 := s2.below Br
        have e3 := s3.below Br
        generalize w4.heap.size = J at hI ⊢
        clear hw5 b1 b2 b3 b4 b5 B2 B3 B4 Br hEr s0 s1 s2 s3 i0 i1 i2 i3 hb hE
        have hnil := fun wx => run_neq_slice_nil_any (P := Yba.prog) wx 22 25 ae k ce 0 0 Yba.underlying22
        have hmk := run_make_ss k hk20
        go_upto_if 86 with fail
        go_cut [15] (fun v wx => ∃ al, v = .slice al k k ∧ FillA w5 wx al k 0 (zsel E M I0 I1 I2 I3) X Y)
        case first =>
          cases hae : ae with
          | none =>
            subst hae
            obtain rfl := hE5.nil rfl
            go_wp2
            go_meet
            case rel => exact ⟨none, rfl, FillA.bare _ _ _ _⟩
          | some ad =>
            subst hae
            go_wp2
            go_meet
            case rel => exact ⟨_, rfl, FillA.start _ _ _ _ _⟩
        case rest =>
          obtain ⟨al, rfl, hF0⟩ := hcut
          clear hnil hmk
          go_wp2
          go_loopw [16, 17] (fun v i wr => ∃ (g : Nat) (r : Int), g ≤ k ∧ i = .int .i64 g ∧ v = .int .i64 r ∧ Hid (FirstB g (wantB E X M I0 I1 I2 I3) r) ∧ FillA w5 wr al k g (zsel E M I0 I1 I2 I3) X Y) (fun _ i _ => k - (intOf i).toNat)
          case atStart => exact ⟨0, -1, Nat.zero_le _, rfl, rfl, .inl ⟨rfl, fun j hj => by omega⟩, hF0⟩
          case round =>
            obtain ⟨g, r, hgk, rfl, rfl, hfst, hF⟩ := hrel
            by_cases hlt : g < k
            · have hEr := hE5.below hF.bel
              have hIr := hI.below hF.bel
              obtain ⟨b, off, rfl, hc⟩ := hEr.spot (by omega)
              obtain ⟨c0, c1, c2, c3, c4, c5, c6, c7⟩ := hc g hlt
              obtain ⟨mb, hmb⟩ : ∃ mb, mb = M g := ⟨_, rfl⟩
              rw [← hmb] at c7
              have HM : Hid (mb = M g) := hmb
              obtain ⟨xb, hxb⟩ : ∃ xb, xb = X g := ⟨_, rfl⟩
              rw [← hxb] at c5
              have HX : Hid (xb = X g) := hxb
              obtain ⟨yb, hyb⟩ : ∃ yb, yb = Y g := ⟨_, rfl⟩
              rw [← hyb] at c6
              have HY : Hid (yb = Y g) := hyb
              clear hc hmb hxb hyb
              go_upto_if 101 with fail
              have RX := RndA.start wr (E g 0) (E g 1) (E g 2) (E g 3) (E g 4) xb yb mb
              obtain ⟨w6, hw6⟩ : ∃ w6, w6 = (wr.alloc (Obj.cells #[.slice (E g 0).a (E g 0).n (E g 0).c, .slice (E g 1).a (E g 1).n (E g 1).c, .slice (E g 2).a (E g 2).n (E g 2).c, .slice (E g 3).a (E g 3).n (E g 3).c, .slice (E g 4).a (E g 4).n (E g 4).c, .bool xb, .bool yb, .bool mb] 25)).alloc (Obj.cells #[.slice none 0 0, .slice none 0 0, .slice none 0 0, .slice none 0 0] 29) := ⟨_, rfl⟩
              rw [← hw6] at RX ⊢
              clear hw6
              have hE6 := hEr.below RX.bel
              have hI6 := hIr.below RX.bel
              have f0 := (hE6.row g hlt 0 (by omega)).small (hLs.out g hlt 0 (by omega))
              have f1 := (hE6.row g hlt 1 (by omega)).small (hLs.out g hlt 1 (by omega))
              have f2 := (hE6.row g hlt 2 (by omega)).small (hLs.out g hlt 2 (by omega))
              have f3 := (hE6.row g hlt 3 (by omega)).small (hLs.out g hlt 3 (by omega))
              have f4 := (hE6.row g hlt 4 (by omega)).small (hLs.out g hlt 4 (by omega))
              have fr0 := (hEr.row g hlt 0 (by omega)).small (hLs.out g hlt 0 (by omega))
              have fr1 := (hEr.row g hlt 1 (by omega)).small (hLs.out g hlt 1 (by omega))
              have fr2 := (hEr.row g hlt 2 (by omega)).small (hLs.out g hlt 2 (by omega))
              have fr3 := (hEr.row g hlt 3 (by omega)).small (hLs.out g hlt 3 (by omega))
              have fr4 := (hEr.row g hlt 4 (by omega)).small (hLs.out g hlt 4 (by omega))
              have kr0 := e0.below hF.bel
              have kr1 := e1.below hF.bel
              have kr2 := e2.below hF.bel
              have kr3 := e3.below hF.bel
              clear hE6 hEr hIr c0 c1 c2 c3 c4 c5 c6 c7
              go_cut [20] (fun v wx => ∃ t1 t2 t3 t4 : Sl, InA wr wx (E g 0) (E g 1) (E g 2) (E g 3) (E g 4) xb yb t1 t2 t3 t4 (zsel E M I0 I1 I2 I3 g 1) (zsel E M I0 I1 I2 I3 g 2) (zsel E M I0 I1 I2 I3 g 3) (zsel E M I0 I1 I2 I3 g 4) ∧ v = .bool (matchB E M I0 I1 I2 I3 g))
              case first =>
                cases mb with
                | true =>
                  obtain ⟨h0, h1, h2, h3, r0, r1, r2, r3⟩ := hI6
                  go_wp2_with fail
                  refine (cloneinit_any _ I0 I1 I2 I3 r0 r1 r2 r3).mono ?_
                  rintro e w7 ⟨t1, t2, t3, t4, rfl, rr, zz, b7, ff⟩
                  have R7 := RX.next b7
                  obtain ⟨⟨v0, q0⟩, p0⟩ := R7.rin 0 (by omega)
                  obtain ⟨⟨v1, q1⟩, p1⟩ := R7.rin 1 (by omega)
                  obtain ⟨⟨v2, q2⟩, p2⟩ := R7.rin 2 (by omega)
                  obtain ⟨⟨v3, q3⟩, p3⟩ := R7.rin 3 (by omega)
                  have ZZ : Hid (t1.z = I0.z ∧ t2.z = I1.z ∧ t3.z = I2.z ∧ t4.z = I3.z) := zz
                  have FF : Hid (Fresh w6 t1 ∧ Fresh w6 t2 ∧ Fresh w6 t3 ∧ Fresh w6 t4) := ff
                  have RR : Hid (SR w7 t1 ∧ SR w7 t2 ∧ SR w7 t3 ∧ SR w7 t4) := rr
                  clear zz ff rr h0 h1 h2 h3
                  go_wp2
                  go_meet
                  case rel =>
                    have hz6 := RX.sz
                    refine ⟨t1, t2, t3, t4, InA.made R7 RR.out ?_ ?_, congrArg Value.bool (matchB_same HM.out)⟩
                    · simp only [zsel, ← HM.out, if_true]; exact ZZ.out
                    · exact ⟨fun x hx => Nat.lt_of_lt_of_le hz6 (FF.out.1 x hx), fun x hx => Nat.lt_of_lt_of_le hz6 (FF.out.2.1 x hx), fun x hx => Nat.lt_of_lt_of_le hz6 (FF.out.2.2.1 x hx), fun x hx => Nat.lt_of_lt_of_le hz6 (FF.out.2.2.2 x hx)⟩
                | false =>
                  have S0 : Hid (RndA wr w6.drew (E g 0) (E g 1) (E g 2) (E g 3) (E g 4) xb yb) := RX.next (Below.refl _ _).drew
                  have hz6 := RX.sz
                  clear RX hI6
                  go_wp2
                  go_region_held3 (fun w' => RndA wr w' (E g 0) (E g 1) (E g 2) (E g 3) (E g 4) xb yb ∧ w'.cell? ⟨wr.heap.size, 1, none⟩ = some (.slice (E g 1).a (E g 1).n (E g 1).c) ∧ w'.cell? ⟨wr.heap.size, 2, none⟩ = some (.slice (E g 2).a (E g 2).n (E g 2).c) ∧ w'.cell? ⟨wr.heap.size, 3, none⟩ = some (.slice (E g 3).a (E g 3).n (E g 3).c) ∧ w'.cell? ⟨wr.heap.size, 4, none⟩ = some (.slice (E g 4).a (E g 4).n (E g 4).c))
                    (first | exact ⟨S0.out, S0.out.q1, S0.out.q2, S0.out.q3, S0.out.q4⟩ | exact ⟨S1.out, S1.out.q1, S1.out.q2, S1.out.q3, S1.out.q4⟩ | exact ⟨S2.out, S2.out.q1, S2.out.q2, S2.out.q3, S2.out.q4⟩ | exact ⟨S3.out, S3.out.q1, S3.out.q2, S3.out.q3, S3.out.q4⟩ | exact ⟨S4.out, S4.out.q1, S4.out.q2, S4.out.q3, S4.out.q4⟩ | exact ⟨S5.out.rnd, S5.out.rnd.q1, S5.out.rnd.q2, S5.out.rnd.q3, S5.out.rnd.q4⟩)
                    (first
                      | (go_at_call_of 5 (Sl.a (E g 1)); refine (clone_at w6 _ (E g 1) (Below.refl _ _).drew f1).mono ?_; rintro e w7 ⟨t1, rfl, r1, z1, b1, ff1⟩; have S1 : Hid (RndA wr w7 (E g 0) (E g 1) (E g 2) (E g 3) (E g 4) xb yb) := S0.out.next b1; have BB1 : Hid (Below w6.heap.size w6 w7) := (Below.refl w6.heap.size w6).drew.trans b1)
                      | (go_at_call_of 5 (Sl.a (E g 2)); refine (clone_at w6 _ (E g 2) BB1.out f2).mono ?_; rintro e w8 ⟨t2, rfl, r2, z2, b2, ff2⟩; have S2 : Hid (RndA wr w8 (E g 0) (E g 1) (E g 2) (E g 3) (E g 4) xb yb) := S1.out.next b2; have BB2 : Hid (Below w6.heap.size w6 w8) := BB1.out.trans (b2.mono BB1.out.size))
                      | (go_at_call_of 5 (Sl.a (E g 3)); refine (clone_at w6 _ (E g 3) BB2.out f3).mono ?_; rintro e w9 ⟨t3, rfl, r3, z3, b3, ff3⟩; have S3 : Hid (RndA wr w9 (E g 0) (E g 1) (E g 2) (E g 3) (E g 4) xb yb) := S2.out.next b3; have BB3 : Hid (Below w6.heap.size w6 w9) := BB2.out.trans (b3.mono BB2.out.size))
                      | (go_at_call_of 5 (Sl.a (E g 4)); refine (clone_at w6 _ (E g 4) BB3.out f4).mono ?_; rintro e w10 ⟨t4, rfl, r4, z4, b4, ff4⟩; have S4 : Hid (RndA wr w10 (E g 0) (E g 1) (E g 2) (E g 3) (E g 4) xb yb) := S3.out.next b4; have BB4 : Hid (Below w6.heap.size w6 w10) := BB3.out.trans (b4.mono BB3.out.size); have S5 : Hid (InA wr (put4 w10 wr.heap.size (.slice t1.a t1.n t1.c) (.slice t2.a t2.n t2.c) (.slice t3.a t3.n t3.c) (.slice t4.a t4.n t4.c)) (E g 0) (E g 1) (E g 2) (E g 3) (E g 4) xb yb t1 t2 t3 t4 (E g 1).z (E g 2).z (E g 3).z (E g 4).z) := InA.made S4.out ⟨((r1.below b2).below b3).below b4, (r2.below b3).below b4, r3.below b4, r4⟩ ⟨z1, z2, z3, z4⟩ ⟨fun x hx => Nat.lt_of_lt_of_le hz6 (ff1 x hx), fun x hx => Nat.lt_of_lt_of_le S1.out.sz (ff2 x hx), fun x hx => Nat.lt_of_lt_of_le S2.out.sz (ff3 x hx), fun x hx => Nat.lt_of_lt_of_le S3.out.sz (ff4 x hx)⟩; obtain ⟨⟨v0, q0⟩, p0⟩ := S4.out.rin 0 (by omega); obtain ⟨⟨v1, q1⟩, p1⟩ := S4.out.rin 1 (by omega); obtain ⟨⟨v2, q2⟩, p2⟩ := S4.out.rin 2 (by omega); obtain ⟨⟨v3, q3⟩, p3⟩ := S4.out.rin 3 (by omega)))
                  have HMB : Hid (matchB E M I0 I1 I2 I3 g = (eqB (E g 1).z D0.z && eqB (E g 2).z D1.z && eqB (E g 3).z D2.z && eqB (E g 4).z D3.z)) := by rw [← Z0.out, ← Z1.out, ← Z2.out, ← Z3.out]; exact matchB_own HM.out
                  have S6 : InA wr (put4 w10 wr.heap.size (.slice t1.a t1.n t1.c) (.slice t2.a t2.n t2.c) (.slice t3.a t3.n t3.c) (.slice t4.a t4.n t4.c)) (E g 0) (E g 1) (E g 2) (E g 3) (E g 4) xb yb t1 t2 t3 t4 (zsel E M I0 I1 I2 I3 g 1) (zsel E M I0 I1 I2 I3 g 2) (zsel E M I0 I1 I2 I3 g 3) (zsel E M I0 I1 I2 I3 g 4) := by simpa [zsel, ← HM.out] using S5.out
                  change Exit.then _ _ Exit.normal _ (put4 w10 wr.heap.size (.slice t1.a t1.n t1.c) (.slice t2.a t2.n t2.c) (.slice t3.a t3.n t3.c) (.slice t4.a t4.n t4.c))
                  generalize put4 w10 wr.heap.size (.slice t1.a t1.n t1.c) (.slice t2.a t2.n t2.c) (.slice t3.a t3.n t3.c) (.slice t4.a t4.n t4.c) = w11 at S6 ⊢
                  clear S0 S1 S2 S3 S4 S5 BB1 BB2 BB3 BB4 b1 b2 b3 b4 r1 r2 r3 r4 z1 z2 z3 z4 ff1 ff2 ff3 ff4 q0 q1 q2 q3 p0 p1 p2 p3 f0 f1 f2 f3 f4 hz6
                  have g1 := S6.rnd.q1
                  have g2 := S6.rnd.q2
                  have g3 := S6.rnd.q3
                  have g4 := S6.rnd.q4
                  cases y0 : eqB (E g 1).z D0.z with
                  | false =>
                    have hA : Hid (false = matchB E M I0 I1 I2 I3 g) := by show _ = _; rw [HMB.out]; simp [y0]
                    go_wp2_with fail
                    refine (eq_at wr _ (E g 1) D0 ?_ fr1 kr0).mono ?_
                    · repeat (first | exact S6.rnd.bel | refine below_drewN ?_ _)
                    rintro e w' ⟨rfl, d, rfl⟩
                    go_wp2_with fail
                    go_meet
                    case rel => exact ⟨t1, t2, t3, t4, S6.next (by repeat (first | exact Below.refl _ _ | refine below_drewN ?_ _)), congrArg Value.bool hA.out⟩
                  | true =>
                    cases y1 : eqB (E g 2).z D1.z with
                    | false =>
                      have hA : Hid (false = matchB E M I0 I1 I2 I3 g) := by show _ = _; rw [HMB.out]; simp [y0, y1]
                      go_wp2_with fail
                      refine (eq_at wr _ (E g 1) D0 ?_ fr1 kr0).mono ?_
                      · repeat (first | exact S6.rnd.bel | refine below_drewN ?_ _)
                      rintro e w' ⟨rfl, d, rfl⟩
                      go_wp2_with fail
                      refine (eq_at wr _ (E g 2) D1 ?_ fr2 kr1).mono ?_
                      · repeat (first | exact S6.rnd.bel | refine below_drewN ?_ _)
                      rintro e w' ⟨rfl, d, rfl⟩
                      go_wp2_with fail
                      go_meet
                      case rel => exact ⟨t1, t2, t3, t4, S6.next (by repeat (first | exact Below.refl _ _ | refine below_drewN ?_ _)), congrArg Value.bool hA.out⟩
                    | true =>
                      cases y2 : eqB (E g 3).z D2.z with
                      | false =>
                        have hA : Hid (false = matchB E M I0 I1 I2 I3 g) := by show _ = _; rw [HMB.out]; simp [y0, y1, y2]
                        go_wp2_with fail
                        refine (eq_at wr _ (E g 1) D0 ?_ fr1 kr0).mono ?_
                        · repeat (first | exact S6.rnd.bel | refine below_drewN ?_ _)
                        rintro e w' ⟨rfl, d, rfl⟩
                        go_wp2_with fail
                        refine (eq_at wr _ (E g 2) D1 ?_ fr2 kr1).mono ?_
                        · repeat (first | exact S6.rnd.bel | refine below_drewN ?_ _)
                        rintro e w' ⟨rfl, d, rfl⟩
                        go_wp2_with fail
                        refine (eq_at wr _ (E g 3) D2 ?_ fr3 kr2).mono ?_
                        · repeat (first | exact S6.rnd.bel | refine below_drewN ?_ _)
                        rintro e w' ⟨rfl, d, rfl⟩
                        go_wp2_with fail
                        go_meet
                        case rel => exact ⟨t1, t2, t3, t4, S6.next (by repeat (first | exact Below.refl _ _ | refine below_drewN ?_ _)), congrArg Value.bool hA.out⟩
                      | true =>
                        cases y3 : eqB (E g 4).z D3.z with
                        | false =>
                          have hA : Hid (false = matchB E M I0 I1 I2 I3 g) := by show _ = _; rw [HMB.out]; simp [y0, y1, y2, y3]
                          go_wp2_with fail
                          refine (eq_at wr _ (E g 1) D0 ?_ fr1 kr0).mono ?_
                          · repeat (first | exact S6.rnd.bel | refine below_drewN ?_ _)
                          rintro e w' ⟨rfl, d, rfl⟩
                          go_wp2_with fail
                          refine (eq_at wr _ (E g 2) D1 ?_ fr2 kr1).mono ?_
                          · repeat (first | exact S6.rnd.bel | refine below_drewN ?_ _)
                          rintro e w' ⟨rfl, d, rfl⟩
                          go_wp2_with fail
                          refine (eq_at wr _ (E g 3) D2 ?_ fr3 kr2).mono ?_
                          · repeat (first | exact S6.rnd.bel | refine below_drewN ?_ _)
                          rintro e w' ⟨rfl, d, rfl⟩
                          go_wp2_with fail
                          refine (eq_at wr _ (E g 4) D3 ?_ fr4 kr3).mono ?_
                          · repeat (first | exact S6.rnd.bel | refine below_drewN ?_ _)
                          rintro e w' ⟨rfl, d, rfl⟩
                          go_wp2_with fail
                          go_meet
                          case rel => exact ⟨t1, t2, t3, t4, S6.next (by repeat (first | exact Below.refl _ _ | refine below_drewN ?_ _)), congrArg Value.bool hA.out⟩
                        | true =>
                          have hA : Hid (true = matchB E M I0 I1 I2 I3 g) := by show _ = _; rw [HMB.out]; simp [y0, y1, y2, y3]
                          go_wp2_with fail
                          refine (eq_at wr _ (E g 1) D0 ?_ fr1 kr0).mono ?_
                          · repeat (first | exact S6.rnd.bel | refine below_drewN ?_ _)
                          rintro e w' ⟨rfl, d, rfl⟩
                          go_wp2_with fail
                          refine (eq_at wr _ (E g 2) D1 ?_ fr2 kr1).mono ?_
                          · repeat (first | exact S6.rnd.bel | refine below_drewN ?_ _)
                          rintro e w' ⟨rfl, d, rfl⟩
                          go_wp2_with fail
                          refine (eq_at wr _ (E g 3) D2 ?_ fr3 kr2).mono ?_
                          · repeat (first | exact S6.rnd.bel | refine below_drewN ?_ _)
                          rintro e w' ⟨rfl, d, rfl⟩
                          go_wp2_with fail
                          refine (eq_at wr _ (E g 4) D3 ?_ fr4 kr3).mono ?_
                          · repeat (first | exact S6.rnd.bel | refine below_drewN ?_ _)
                          rintro e w' ⟨rfl, d, rfl⟩
                          go_wp2_with fail
                          go_meet
                          case rel => exact ⟨t1, t2, t3, t4, S6.next (by repeat (first | exact Below.refl _ _ | refine below_drewN ?_ _)), congrArg Value.bool hA.out⟩
              case rest =>
                obtain ⟨t1, t2, t3, t4, hIn, rfl⟩ := hcut
                obtain ⟨hal, _⟩ := hF.row (by omega)
                subst hal
                have hnx0 : w5.heap.size < wr.heap.size := (hF.next hlt (Below.refl _ _)).1
                have S0 : Hid (InA wr wc.drew (E g 0) (E g 1) (E g 2) (E g 3) (E g 4) xb yb t1 t2 t3 t4 (zsel E M I0 I1 I2 I3 g 1) (zsel E M I0 I1 I2 I3 g 2) (zsel E M I0 I1 I2 I3 g 3) (zsel E M I0 I1 I2 I3 g 4)) := hIn.next (Below.refl _ _).drew
                have hgi : (g : Int) < (k : Int) := by omega
                clear hIn RX hI6 fr1 fr2 fr3 fr4 kr0 kr1 kr2 kr3 f0 f1 f2 f3 f4
                obtain ⟨mt, hmt⟩ : ∃ mt, mt = matchB E M I0 I1 I2 I3 g := ⟨_, rfl⟩
                have HT : Hid (mt = matchB E M I0 I1 I2 I3 g) := hmt
                rw [← hmt]
                clear hmt
                go_wp2
                have S0c : Hid (wc.drew.cell? ⟨wr.heap.size, 0, none⟩ = some (.slice (E g 0).a (E g 0).n (E g 0).c) ∧ wc.drew.cell? ⟨wr.heap.size, 5, none⟩ = some (.bool xb) ∧ wc.drew.cell? ⟨wr.heap.size, 6, none⟩ = some (.bool yb) ∧ wc.drew.cell? ⟨wr.heap.size + 1, 0, none⟩ = some (.slice t1.a t1.n t1.c) ∧ wc.drew.cell? ⟨wr.heap.size + 1, 1, none⟩ = some (.slice t2.a t2.n t2.c) ∧ wc.drew.cell? ⟨wr.heap.size + 1, 2, none⟩ = some (.slice t3.a t3.n t3.c) ∧ wc.drew.cell? ⟨wr.heap.size + 1, 3, none⟩ = some (.slice t4.a t4.n t4.c)) := S0.out.cells
                go_region_held3 (fun w' => w'.cell? ⟨wr.heap.size, 0, none⟩ = some (.slice (E g 0).a (E g 0).n (E g 0).c) ∧ w'.cell? ⟨wr.heap.size, 5, none⟩ = some (.bool xb) ∧ w'.cell? ⟨wr.heap.size, 6, none⟩ = some (.bool yb) ∧ w'.cell? ⟨wr.heap.size + 1, 0, none⟩ = some (.slice t1.a t1.n t1.c) ∧ w'.cell? ⟨wr.heap.size + 1, 1, none⟩ = some (.slice t2.a t2.n t2.c) ∧ w'.cell? ⟨wr.heap.size + 1, 2, none⟩ = some (.slice t3.a t3.n t3.c) ∧ w'.cell? ⟨wr.heap.size + 1, 3, none⟩ = some (.slice t4.a t4.n t4.c))
                  (first | with_reducible exact S0c.out | with_reducible exact S1c.out | with_reducible exact S2c.out)
                  (first
                    | (go_at_call 5; refine (clone_at wr _ (E g 0) S0.out.rnd.bel fr0).mono ?_; rintro e w12 ⟨t0, rfl, r0, z0', b0, ff0⟩; have z0 : Hid (t0.z = (E g 0).z) := z0'; clear z0'; have S1 : Hid (InA wr w12 (E g 0) (E g 1) (E g 2) (E g 3) (E g 4) xb yb t1 t2 t3 t4 (zsel E M I0 I1 I2 I3 g 1) (zsel E M I0 I1 I2 I3 g 2) (zsel E M I0 I1 I2 I3 g 3) (zsel E M I0 I1 I2 I3 g 4)) := S0.out.next b0; obtain ⟨⟨v0, q0⟩, p0, ⟨v1, q1⟩, p1, ⟨v2, q2⟩, p2, ⟨v3, q3⟩, p3, ⟨v4, q4⟩, p4, ⟨v5, q5⟩, p5, ⟨v6, q6⟩, p6⟩ := hF.next7 hlt S1.out.rnd.bel; have S1c : Hid (w12.cell? ⟨wr.heap.size, 0, none⟩ = some (.slice (E g 0).a (E g 0).n (E g 0).c) ∧ w12.cell? ⟨wr.heap.size, 5, none⟩ = some (.bool xb) ∧ w12.cell? ⟨wr.heap.size, 6, none⟩ = some (.bool yb) ∧ w12.cell? ⟨wr.heap.size + 1, 0, none⟩ = some (.slice t1.a t1.n t1.c) ∧ w12.cell? ⟨wr.heap.size + 1, 1, none⟩ = some (.slice t2.a t2.n t2.c) ∧ w12.cell? ⟨wr.heap.size + 1, 2, none⟩ = some (.slice t3.a t3.n t3.c) ∧ w12.cell? ⟨wr.heap.size + 1, 3, none⟩ = some (.slice t4.a t4.n t4.c)) := S1.out.cells; have S2c : Hid ((((((((w12.setCell ⟨w5.heap.size, g * 7, none⟩ (.slice t0.a t0.n t0.c)).setCell ⟨w5.heap.size, g * 7 + 1, none⟩ (.slice t1.a t1.n t1.c)).setCell ⟨w5.heap.size, g * 7 + 2, none⟩ (.slice t2.a t2.n t2.c)).setCell ⟨w5.heap.size, g * 7 + 3, none⟩ (.slice t3.a t3.n t3.c)).setCell ⟨w5.heap.size, g * 7 + 4, none⟩ (.slice t4.a t4.n t4.c)).setCell ⟨w5.heap.size, g * 7 + 5, none⟩ (.bool xb)).setCell ⟨w5.heap.size, g * 7 + 6, none⟩ (.bool yb)).cell? ⟨wr.heap.size, 0, none⟩ = some (.slice (E g 0).a (E g 0).n (E g 0).c) ∧ (((((((w12.setCell ⟨w5.heap.size, g * 7, none⟩ (.slice t0.a t0.n t0.c)).setCell ⟨w5.heap.size, g * 7 + 1, none⟩ (.slice t1.a t1.n t1.c)).setCell ⟨w5.heap.size, g * 7 + 2, none⟩ (.slice t2.a t2.n t2.c)).setCell ⟨w5.heap.size, g * 7 + 3, none⟩ (.slice t3.a t3.n t3.c)).setCell ⟨w5.heap.size, g * 7 + 4, none⟩ (.slice t4.a t4.n t4.c)).setCell ⟨w5.heap.size, g * 7 + 5, none⟩ (.bool xb)).setCell ⟨w5.heap.size, g * 7 + 6, none⟩ (.bool yb)).cell? ⟨wr.heap.size, 5, none⟩ = some (.bool xb) ∧ (((((((w12.setCell ⟨w5.heap.size, g * 7, none⟩ (.slice t0.a t0.n t0.c)).setCell ⟨w5.heap.size, g * 7 + 1, none⟩ (.slice t1.a t1.n t1.c)).setCell ⟨w5.heap.size, g * 7 + 2, none⟩ (.slice t2.a t2.n t2.c)).setCell ⟨w5.heap.size, g * 7 + 3, none⟩ (.slice t3.a t3.n t3.c)).setCell ⟨w5.heap.size, g * 7 + 4, none⟩ (.slice t4.a t4.n t4.c)).setCell ⟨w5.heap.size, g * 7 + 5, none⟩ (.bool xb)).setCell ⟨w5.heap.size, g * 7 + 6, none⟩ (.bool yb)).cell? ⟨wr.heap.size, 6, none⟩ = some (.bool yb) ∧ (((((((w12.setCell ⟨w5.heap.size, g * 7, none⟩ (.slice t0.a t0.n t0.c)).setCell ⟨w5.heap.size, g * 7 + 1, none⟩ (.slice t1.a t1.n t1.c)).setCell ⟨w5.heap.size, g * 7 + 2, none⟩ (.slice t2.a t2.n t2.c)).setCell ⟨w5.heap.size, g * 7 + 3, none⟩ (.slice t3.a t3.n t3.c)).setCell ⟨w5.heap.size, g * 7 + 4, none⟩ (.slice t4.a t4.n t4.c)).setCell ⟨w5.heap.size, g * 7 + 5, none⟩ (.bool xb)).setCell ⟨w5.heap.size, g * 7 + 6, none⟩ (.bool yb)).cell? ⟨wr.heap.size + 1, 0, none⟩ = some (.slice t1.a t1.n t1.c) ∧ (((((((w12.setCell ⟨w5.heap.size, g * 7, none⟩ (.slice t0.a t0.n t0.c)).setCell ⟨w5.heap.size, g * 7 + 1, none⟩ (.slice t1.a t1.n t1.c)).setCell ⟨w5.heap.size, g * 7 + 2, none⟩ (.slice t2.a t2.n t2.c)).setCell ⟨w5.heap.size, g * 7 + 3, none⟩ (.slice t3.a t3.n t3.c)).setCell ⟨w5.heap.size, g * 7 + 4, none⟩ (.slice t4.a t4.n t4.c)).setCell ⟨w5.heap.size, g * 7 + 5, none⟩ (.bool xb)).setCell ⟨w5.heap.size, g * 7 + 6, none⟩ (.bool yb)).cell? ⟨wr.heap.size + 1, 1, none⟩ = some (.slice t2.a t2.n t2.c) ∧ (((((((w12.setCell ⟨w5.heap.size, g * 7, none⟩ (.slice t0.a t0.n t0.c)).setCell ⟨w5.heap.size, g * 7 + 1, none⟩ (.slice t1.a t1.n t1.c)).setCell ⟨w5.heap.size, g * 7 + 2, none⟩ (.slice t2.a t2.n t2.c)).setCell ⟨w5.heap.size, g * 7 + 3, none⟩ (.slice t3.a t3.n t3.c)).setCell ⟨w5.heap.size, g * 7 + 4, none⟩ (.slice t4.a t4.n t4.c)).setCell ⟨w5.heap.size, g * 7 + 5, none⟩ (.bool xb)).setCell ⟨w5.heap.size, g * 7 + 6, none⟩ (.bool yb)).cell? ⟨wr.heap.size + 1, 2, none⟩ = some (.slice t3.a t3.n t3.c) ∧ (((((((w12.setCell ⟨w5.heap.size, g * 7, none⟩ (.slice t0.a t0.n t0.c)).setCell ⟨w5.heap.size, g * 7 + 1, none⟩ (.slice t1.a t1.n t1.c)).setCell ⟨w5.heap.size, g * 7 + 2, none⟩ (.slice t2.a t2.n t2.c)).setCell ⟨w5.heap.size, g * 7 + 3, none⟩ (.slice t3.a t3.n t3.c)).setCell ⟨w5.heap.size, g * 7 + 4, none⟩ (.slice t4.a t4.n t4.c)).setCell ⟨w5.heap.size, g * 7 + 5, none⟩ (.bool xb)).setCell ⟨w5.heap.size, g * 7 + 6, none⟩ (.bool yb)).cell? ⟨wr.heap.size + 1, 3, none⟩ = some (.slice t4.a t4.n t4.c)) := S1.out.cells.put7 (o := g * 7) hnx0 (.slice t0.a t0.n t0.c) (.slice t1.a t1.n t1.c) (.slice t2.a t2.n t2.c) (.slice t3.a t3.n t3.c) (.slice t4.a t4.n t4.c) (.bool xb) (.bool yb)))
                have F13 : FillA w5 (put7 w12 w5.heap.size (g * 7) (.slice t0.a t0.n t0.c) (.slice t1.a t1.n t1.c) (.slice t2.a t2.n t2.c) (.slice t3.a t3.n t3.c) (.slice t4.a t4.n t4.c) (.bool xb) (.bool yb)) (some ⟨w5.heap.size, 0, none⟩) k (g + 1) (zsel E M I0 I1 I2 I3) X Y := by
                  have h1 := S1.out
                  have hst := hF.step hlt h1.rnd.bel ⟨r0, h1.r.1, h1.r.2.1, h1.r.2.2.1, h1.r.2.2.2⟩ ⟨z0.out, h1.z.1, h1.z.2.1, h1.z.2.2.1, h1.z.2.2.2⟩ ⟨fun x hx => by have := ff0 x hx; have := S0.out.rnd.sz; omega, fun x hx => by have := h1.fr.1 x hx; omega, fun x hx => by have := h1.fr.2.1 x hx; omega, fun x hx => by have := h1.fr.2.2.1 x hx; omega, fun x hx => by have := h1.fr.2.2.2 x hx; omega⟩
                  rw [← HX.out, ← HY.out] at hst
                  exact hst
                have c13 : (put7 w12 w5.heap.size (g * 7) (.slice t0.a t0.n t0.c) (.slice t1.a t1.n t1.c) (.slice t2.a t2.n t2.c) (.slice t3.a t3.n t3.c) (.slice t4.a t4.n t4.c) (.bool xb) (.bool yb)).cell? ⟨wr.heap.size, 5, none⟩ = some (.bool xb) := S2c.out.2.1
                change Exit.then _ _ Exit.normal _ (put7 w12 w5.heap.size (g * 7) (.slice t0.a t0.n t0.c) (.slice t1.a t1.n t1.c) (.slice t2.a t2.n t2.c) (.slice t3.a t3.n t3.c) (.slice t4.a t4.n t4.c) (.bool xb) (.bool yb))
                generalize put7 w12 w5.heap.size (g * 7) (.slice t0.a t0.n t0.c) (.slice t1.a t1.n t1.c) (.slice t2.a t2.n t2.c) (.slice t3.a t3.n t3.c) (.slice t4.a t4.n t4.c) (.bool xb) (.bool yb) = w13 at F13 c13 ⊢
                have G13 : Hid (FillA w5 w13 (some ⟨w5.heap.size, 0, none⟩) k (g + 1) (zsel E M I0 I1 I2 I3) X Y) := F13
                clear F13 S0 S1 S0c S1c S2c q0 q1 q2 q3 q4 q5 q6 p0 p1 p2 p3 p4 p5 p6 b0 r0 ff0 z0 hF hnx0 hF0
                by_cases hr0 : r < 0
                · have hrm : Hid (∀ j, j < g → wantB E X M I0 I1 I2 I3 j = false) := by
                    rcases hfst.out with ⟨_, h⟩ | ⟨j, _, h, _⟩
                    · exact h
                    · exfalso; omega
                  have hrv : Hid (r = -1) := by
                    rcases hfst.out with ⟨h, _⟩ | ⟨j, _, h, _⟩
                    · exact h
                    · exfalso; omega
                  cases xb with
                  | true =>
                    go_wp2
                    go_roundw
                    case rel =>
                      refine ⟨g + 1, r, by omega, by go_num, rfl, .inl ⟨hrv.out, fun j hj => ?_⟩, G13.out⟩
                      rcases Nat.lt_succ_iff_lt_or_eq.1 hj with h1 | rfl
                      · exact hrm.out j h1
                      · rw [wantB_eq, ← HX.out]; rfl
                    case measure => simp [intOf]; omega
                  | false =>
                    cases mt with
                    | true =>
                      go_wp2
                      go_roundw
                      case rel =>
                        refine ⟨g + 1, g, by omega, by go_num, rfl, .inr ⟨g, by omega, rfl, ?_, hrm.out⟩, G13.out⟩
                        rw [wantB_eq, ← HX.out, ← HT.out]; rfl
                      case measure => simp [intOf]; omega
                    | false =>
                      go_wp2
                      go_roundw
                      case rel =>
                        refine ⟨g + 1, r, by omega, by go_num, rfl, .inl ⟨hrv.out, fun j hj => ?_⟩, G13.out⟩
                        rcases Nat.lt_succ_iff_lt_or_eq.1 hj with h1 | rfl
                        · exact hrm.out j h1
                        · rw [wantB_eq, ← HT.out]; simp
                      case measure => simp [intOf]; omega
                · have hd : decide (r < 0) = false := decide_eq_false hr0
                  go_wp2
                  go_roundw
                  case rel =>
                    refine ⟨g + 1, r, by omega, by go_num, rfl, ?_, G13.out⟩
                    rcases hfst.out with ⟨h, _⟩ | ⟨j, h1, h2, h3, h4⟩
                    · exfalso; omega
                    · exact .inr ⟨j, by omega, h2, h3, h4⟩
                  case measure => simp [intOf]; omega
            · obtain rfl : g = k := by omega
              rename World => w7
              obtain ⟨T, hS, hTz⟩ := hF.sess
              have HTz : Hid (∀ j, j < g → ∀ i, i < 5 → (T j i).z = zsel E M I0 I1 I2 I3 j i) := hTz
              have hI7 := hI.below hF.bel
              have B7 : Below w.heap.size w w7 := B5.trans (hF.bel.mono B5.size)
              have hmk := run_make_ss g hk20
              clear hTz hgk hlt hF hF0 hI hE5 e0 e1 e2 e3 B5 hLs
              rename Nat => k
              have hF0 := FillA.start w7 k (zsel E M I0 I1 I2 I3) X Y
              go_wp2
              clear hmk
              go_loopw [22] (fun i wr => ∃ g : Nat, g ≤ k ∧ i = .int .i64 g ∧ FillA w7 wr (some ⟨w7.heap.size, 0, none⟩) k g (zsel E M I0 I1 I2 I3) X Y) (fun i _ => k - (intOf i).toNat)
              case atStart => exact ⟨0, Nat.zero_le _, rfl, hF0⟩
              case round =>
                obtain ⟨g, hgk, rfl, hF⟩ := hrel
                have hSr := hS.below hF.bel
                by_cases hlt : g < k
                · obtain ⟨B, rfl, hc⟩ := hSr.spot (by omega)
                  obtain ⟨c0, c1, c2, c3, c4, c5, c6⟩ := hc g hlt
                  have r0 := hSr.row g hlt 0 (by omega)
                  have r1 := hSr.row g hlt 1 (by omega)
                  have r2 := hSr.row g hlt 2 (by omega)
                  have r3 := hSr.row g hlt 3 (by omega)
                  have r4 := hSr.row g hlt 4 (by omega)
                  have hnx0 : w7.heap.size < wr.heap.size := (hF.next hlt (Below.refl _ _)).1
                  have S0 : Hid (SVar wr (wr.alloc (Obj.cells #[.slice (T g 0).a (T g 0).n (T g 0).c, .slice (T g 1).a (T g 1).n (T g 1).c, .slice (T g 2).a (T g 2).n (T g 2).c, .slice (T g 3).a (T g 3).n (T g 3).c, .slice (T g 4).a (T g 4).n (T g 4).c, .bool (X g), .bool (Y g)] 34)).drew (T g 0) (T g 1) (T g 2) (T g 3) (T g 4) (X g) (Y g)) := SVar.start wr (T g 0) (T g 1) (T g 2) (T g 3) (T g 4) (X g) (Y g)
                  have hgi : (g : Int) < (k : Int) := by omega
                  clear hc hSr
                  go_wp2
                  clear c0 c1 c2 c3 c4 c5 c6
                  obtain ⟨w9, hw9⟩ : ∃ w9, w9 = (wr.alloc (Obj.cells #[.slice (T g 0).a (T g 0).n (T g 0).c, .slice (T g 1).a (T g 1).n (T g 1).c, .slice (T g 2).a (T g 2).n (T g 2).c, .slice (T g 3).a (T g 3).n (T g 3).c, .slice (T g 4).a (T g 4).n (T g 4).c, .bool (X g), .bool (Y g)] 34)).drew := ⟨_, rfl⟩
                  rw [← hw9] at S0
                  have hE : Hid (w9 = (wr.alloc (Obj.cells #[.slice (T g 0).a (T g 0).n (T g 0).c, .slice (T g 1).a (T g 1).n (T g 1).c, .slice (T g 2).a (T g 2).n (T g 2).c, .slice (T g 3).a (T g 3).n (T g 3).c, .slice (T g 4).a (T g 4).n (T g 4).c, .bool (X g), .bool (Y g)] 34)).drew) := hw9
                  clear hw9
                  have S0c : Hid ((wr.alloc (Obj.cells #[.slice (T g 0).a (T g 0).n (T g 0).c, .slice (T g 1).a (T g 1).n (T g 1).c, .slice (T g 2).a (T g 2).n (T g 2).c, .slice (T g 3).a (T g 3).n (T g 3).c, .slice (T g 4).a (T g 4).n (T g 4).c, .bool (X g), .bool (Y g)] 34)).drew.cell? ⟨wr.heap.size, 0, none⟩ = some (.slice (T g 0).a (T g 0).n (T g 0).c) ∧ (wr.alloc (Obj.cells #[.slice (T g 0).a (T g 0).n (T g 0).c, .slice (T g 1).a (T g 1).n (T g 1).c, .slice (T g 2).a (T g 2).n (T g 2).c, .slice (T g 3).a (T g 3).n (T g 3).c, .slice (T g 4).a (T g 4).n (T g 4).c, .bool (X g), .bool (Y g)] 34)).drew.cell? ⟨wr.heap.size, 1, none⟩ = some (.slice (T g 1).a (T g 1).n (T g 1).c) ∧ (wr.alloc (Obj.cells #[.slice (T g 0).a (T g 0).n (T g 0).c, .slice (T g 1).a (T g 1).n (T g 1).c, .slice (T g 2).a (T g 2).n (T g 2).c, .slice (T g 3).a (T g 3).n (T g 3).c, .slice (T g 4).a (T g 4).n (T g 4).c, .bool (X g), .bool (Y g)] 34)).drew.cell? ⟨wr.heap.size, 2, none⟩ = some (.slice (T g 2).a (T g 2).n (T g 2).c) ∧ (wr.alloc (Obj.cells #[.slice (T g 0).a (T g 0).n (T g 0).c, .slice (T g 1).a (T g 1).n (T g 1).c, .slice (T g 2).a (T g 2).n (T g 2).c, .slice (T g 3).a (T g 3).n (T g 3).c, .slice (T g 4).a (T g 4).n (T g 4).c, .bool (X g), .bool (Y g)] 34)).drew.cell? ⟨wr.heap.size, 3, none⟩ = some (.slice (T g 3).a (T g 3).n (T g 3).c) ∧ (wr.alloc (Obj.cells #[.slice (T g 0).a (T g 0).n (T g 0).c, .slice (T g 1).a (T g 1).n (T g 1).c, .slice (T g 2).a (T g 2).n (T g 2).c, .slice (T g 3).a (T g 3).n (T g 3).c, .slice (T g 4).a (T g 4).n (T g 4).c, .bool (X g), .bool (Y g)] 34)).drew.cell? ⟨wr.heap.size, 4, none⟩ = some (.slice (T g 4).a (T g 4).n (T g 4).c) ∧ (wr.alloc (Obj.cells #[.slice (T g 0).a (T g 0).n (T g 0).c, .slice (T g 1).a (T g 1).n (T g 1).c, .slice (T g 2).a (T g 2).n (T g 2).c, .slice (T g 3).a (T g 3).n (T g 3).c, .slice (T g 4).a (T g 4).n (T g 4).c, .bool (X g), .bool (Y g)] 34)).drew.cell? ⟨wr.heap.size, 5, none⟩ = some (.bool (X g)) ∧ (wr.alloc (Obj.cells #[.slice (T g 0).a (T g 0).n (T g 0).c, .slice (T g 1).a (T g 1).n (T g 1).c, .slice (T g 2).a (T g 2).n (T g 2).c, .slice (T g 3).a (T g 3).n (T g 3).c, .slice (T g 4).a (T g 4).n (T g 4).c, .bool (X g), .bool (Y g)] 34)).drew.cell? ⟨wr.heap.size, 6, none⟩ = some (.bool (Y g))) := by rw [← hE.out]; exact S0.out.cells
                  go_region_held3 (fun w' => w'.cell? ⟨wr.heap.size, 0, none⟩ = some (.slice (T g 0).a (T g 0).n (T g 0).c) ∧ w'.cell? ⟨wr.heap.size, 1, none⟩ = some (.slice (T g 1).a (T g 1).n (T g 1).c) ∧ w'.cell? ⟨wr.heap.size, 2, none⟩ = some (.slice (T g 2).a (T g 2).n (T g 2).c) ∧ w'.cell? ⟨wr.heap.size, 3, none⟩ = some (.slice (T g 3).a (T g 3).n (T g 3).c) ∧ w'.cell? ⟨wr.heap.size, 4, none⟩ = some (.slice (T g 4).a (T g 4).n (T g 4).c) ∧ w'.cell? ⟨wr.heap.size, 5, none⟩ = some (.bool (X g)) ∧ w'.cell? ⟨wr.heap.size, 6, none⟩ = some (.bool (Y g)))
                    (first | with_reducible exact S0c.out | with_reducible exact S1c.out | with_reducible exact S2c.out | with_reducible exact S3c.out)
                    (first
                      | (go_at_call 5; refine (clone_at wr _ (T g 0) ((Below.refl _ _).alloc (Nat.le_refl _) _).drew r0).mono ?_; rintro e w10 ⟨t0, rfl, rr0, z0', b0, ff0⟩; have z0 : Hid (t0.z = (T g 0).z) := z0'; clear z0'; have S1 : Hid (SVar wr w10 (T g 0) (T g 1) (T g 2) (T g 3) (T g 4) (X g) (Y g)) := S0.out.next (by rw [hE.out]; exact b0); have S1c : Hid (w10.cell? ⟨wr.heap.size, 0, none⟩ = some (.slice (T g 0).a (T g 0).n (T g 0).c) ∧ w10.cell? ⟨wr.heap.size, 1, none⟩ = some (.slice (T g 1).a (T g 1).n (T g 1).c) ∧ w10.cell? ⟨wr.heap.size, 2, none⟩ = some (.slice (T g 2).a (T g 2).n (T g 2).c) ∧ w10.cell? ⟨wr.heap.size, 3, none⟩ = some (.slice (T g 3).a (T g 3).n (T g 3).c) ∧ w10.cell? ⟨wr.heap.size, 4, none⟩ = some (.slice (T g 4).a (T g 4).n (T g 4).c) ∧ w10.cell? ⟨wr.heap.size, 5, none⟩ = some (.bool (X g)) ∧ w10.cell? ⟨wr.heap.size, 6, none⟩ = some (.bool (Y g))) := S1.out.cells)
                      | (go_at_call 6; refine (cloneinit_any _ (T g 1) (T g 2) (T g 3) (T g 4) (r1.below S1.out.bel) (r2.below S1.out.bel) (r3.below S1.out.bel) (r4.below S1.out.bel)).mono ?_; rintro e w12 ⟨t1, t2, t3, t4, rfl, rr, zz, b2, ff⟩; have Rr : Hid (SR w12 t1 ∧ SR w12 t2 ∧ SR w12 t3 ∧ SR w12 t4) := rr; have Zz : Hid (t1.z = (T g 1).z ∧ t2.z = (T g 2).z ∧ t3.z = (T g 3).z ∧ t4.z = (T g 4).z) := zz; have Ff : Hid (Fresh w10 t1 ∧ Fresh w10 t2 ∧ Fresh w10 t3 ∧ Fresh w10 t4) := ff; clear rr zz ff; have S2 : Hid (SVar wr w12 (T g 0) (T g 1) (T g 2) (T g 3) (T g 4) (X g) (Y g)) := S1.out.next b2; obtain ⟨⟨v0, q0⟩, p0, ⟨v1, q1⟩, p1, ⟨v2, q2⟩, p2, ⟨v3, q3⟩, p3, ⟨v4, q4⟩, p4, ⟨v5, q5⟩, p5, ⟨v6, q6⟩, p6⟩ := hF.next7 hlt S2.out.bel; have S2c : Hid (w12.cell? ⟨wr.heap.size, 0, none⟩ = some (.slice (T g 0).a (T g 0).n (T g 0).c) ∧ w12.cell? ⟨wr.heap.size, 1, none⟩ = some (.slice (T g 1).a (T g 1).n (T g 1).c) ∧ w12.cell? ⟨wr.heap.size, 2, none⟩ = some (.slice (T g 2).a (T g 2).n (T g 2).c) ∧ w12.cell? ⟨wr.heap.size, 3, none⟩ = some (.slice (T g 3).a (T g 3).n (T g 3).c) ∧ w12.cell? ⟨wr.heap.size, 4, none⟩ = some (.slice (T g 4).a (T g 4).n (T g 4).c) ∧ w12.cell? ⟨wr.heap.size, 5, none⟩ = some (.bool (X g)) ∧ w12.cell? ⟨wr.heap.size, 6, none⟩ = some (.bool (Y g))) := S2.out.cells; have S3c : Hid ((((((((w12.setCell ⟨w7.heap.size, g * 7, none⟩ (.slice t0.a t0.n t0.c)).setCell ⟨w7.heap.size, g * 7 + 1, none⟩ (.slice t1.a t1.n t1.c)).setCell ⟨w7.heap.size, g * 7 + 2, none⟩ (.slice t2.a t2.n t2.c)).setCell ⟨w7.heap.size, g * 7 + 3, none⟩ (.slice t3.a t3.n t3.c)).setCell ⟨w7.heap.size, g * 7 + 4, none⟩ (.slice t4.a t4.n t4.c)).setCell ⟨w7.heap.size, g * 7 + 5, none⟩ (.bool (X g))).setCell ⟨w7.heap.size, g * 7 + 6, none⟩ (.bool (Y g))).cell? ⟨wr.heap.size, 0, none⟩ = some (.slice (T g 0).a (T g 0).n (T g 0).c) ∧ (((((((w12.setCell ⟨w7.heap.size, g * 7, none⟩ (.slice t0.a t0.n t0.c)).setCell ⟨w7.heap.size, g * 7 + 1, none⟩ (.slice t1.a t1.n t1.c)).setCell ⟨w7.heap.size, g * 7 + 2, none⟩ (.slice t2.a t2.n t2.c)).setCell ⟨w7.heap.size, g * 7 + 3, none⟩ (.slice t3.a t3.n t3.c)).setCell ⟨w7.heap.size, g * 7 + 4, none⟩ (.slice t4.a t4.n t4.c)).setCell ⟨w7.heap.size, g * 7 + 5, none⟩ (.bool (X g))).setCell ⟨w7.heap.size, g * 7 + 6, none⟩ (.bool (Y g))).cell? ⟨wr.heap.size, 1, none⟩ = some (.slice (T g 1).a (T g 1).n (T g 1).c) ∧ (((((((w12.setCell ⟨w7.heap.size, g * 7, none⟩ (.slice t0.a t0.n t0.c)).setCell ⟨w7.heap.size, g * 7 + 1, none⟩ (.slice t1.a t1.n t1.c)).setCell ⟨w7.heap.size, g * 7 + 2, none⟩ (.slice t2.a t2.n t2.c)).setCell ⟨w7.heap.size, g * 7 + 3, none⟩ (.slice t3.a t3.n t3.c)).setCell ⟨w7.heap.size, g * 7 + 4, none⟩ (.slice t4.a t4.n t4.c)).setCell ⟨w7.heap.size, g * 7 + 5, none⟩ (.bool (X g))).setCell ⟨w7.heap.size, g * 7 + 6, none⟩ (.bool (Y g))).cell? ⟨wr.heap.size, 2, none⟩ = some (.slice (T g 2).a (T g 2).n (T g 2).c) ∧ (((((((w12.setCell ⟨w7.heap.size, g * 7, none⟩ (.slice t0.a t0.n t0.c)).setCell ⟨w7.heap.size, g * 7 + 1, none⟩ (.slice t1.a t1.n t1.c)).setCell ⟨w7.heap.size, g * 7 + 2, none⟩ (.slice t2.a t2.n t2.c)).setCell ⟨w7.heap.size, g * 7 + 3, none⟩ (.slice t3.a t3.n t3.c)).setCell ⟨w7.heap.size, g * 7 + 4, none⟩ (.slice t4.a t4.n t4.c)).setCell ⟨w7.heap.size, g * 7 + 5, none⟩ (.bool (X g))).setCell ⟨w7.heap.size, g * 7 + 6, none⟩ (.bool (Y g))).cell? ⟨wr.heap.size, 3, none⟩ = some (.slice (T g 3).a (T g 3).n (T g 3).c) ∧ (((((((w12.setCell ⟨w7.heap.size, g * 7, none⟩ (.slice t0.a t0.n t0.c)).setCell ⟨w7.heap.size, g * 7 + 1, none⟩ (.slice t1.a t1.n t1.c)).setCell ⟨w7.heap.size, g * 7 + 2, none⟩ (.slice t2.a t2.n t2.c)).setCell ⟨w7.heap.size, g * 7 + 3, none⟩ (.slice t3.a t3.n t3.c)).setCell ⟨w7.heap.size, g * 7 + 4, none⟩ (.slice t4.a t4.n t4.c)).setCell ⟨w7.heap.size, g * 7 + 5, none⟩ (.bool (X g))).setCell ⟨w7.heap.size, g * 7 + 6, none⟩ (.bool (Y g))).cell? ⟨wr.heap.size, 4, none⟩ = some (.slice (T g 4).a (T g 4).n (T g 4).c) ∧ (((((((w12.setCell ⟨w7.heap.size, g * 7, none⟩ (.slice t0.a t0.n t0.c)).setCell ⟨w7.heap.size, g * 7 + 1, none⟩ (.slice t1.a t1.n t1.c)).setCell ⟨w7.heap.size, g * 7 + 2, none⟩ (.slice t2.a t2.n t2.c)).setCell ⟨w7.heap.size, g * 7 + 3, none⟩ (.slice t3.a t3.n t3.c)).setCell ⟨w7.heap.size, g * 7 + 4, none⟩ (.slice t4.a t4.n t4.c)).setCell ⟨w7.heap.size, g * 7 + 5, none⟩ (.bool (X g))).setCell ⟨w7.heap.size, g * 7 + 6, none⟩ (.bool (Y g))).cell? ⟨wr.heap.size, 5, none⟩ = some (.bool (X g)) ∧ (((((((w12.setCell ⟨w7.heap.size, g * 7, none⟩ (.slice t0.a t0.n t0.c)).setCell ⟨w7.heap.size, g * 7 + 1, none⟩ (.slice t1.a t1.n t1.c)).setCell ⟨w7.heap.size, g * 7 + 2, none⟩ (.slice t2.a t2.n t2.c)).setCell ⟨w7.heap.size, g * 7 + 3, none⟩ (.slice t3.a t3.n t3.c)).setCell ⟨w7.heap.size, g * 7 + 4, none⟩ (.slice t4.a t4.n t4.c)).setCell ⟨w7.heap.size, g * 7 + 5, none⟩ (.bool (X g))).setCell ⟨w7.heap.size, g * 7 + 6, none⟩ (.bool (Y g))).cell? ⟨wr.heap.size, 6, none⟩ = some (.bool (Y g))) := S2.out.cells.put7 (o := g * 7) hnx0 (.slice t0.a t0.n t0.c) (.slice t1.a t1.n t1.c) (.slice t2.a t2.n t2.c) (.slice t3.a t3.n t3.c) (.slice t4.a t4.n t4.c) (.bool (X g)) (.bool (Y g))))
                  have F13 : FillA w7 (put7 w12 w7.heap.size (g * 7) (.slice t0.a t0.n t0.c) (.slice t1.a t1.n t1.c) (.slice t2.a t2.n t2.c) (.slice t3.a t3.n t3.c) (.slice t4.a t4.n t4.c) (.bool (X g)) (.bool (Y g))) (some ⟨w7.heap.size, 0, none⟩) k (g + 1) (zsel E M I0 I1 I2 I3) X Y := by
                    have hz := HTz.out g hlt
                    have k10 := S1.out.sz
                    exact hF.step hlt S2.out.bel ⟨rr0.below b2, Rr.out.1, Rr.out.2.1, Rr.out.2.2.1, Rr.out.2.2.2⟩ ⟨z0.out.trans (hz 0 (by omega)), Zz.out.1.trans (hz 1 (by omega)), Zz.out.2.1.trans (hz 2 (by omega)), Zz.out.2.2.1.trans (hz 3 (by omega)), Zz.out.2.2.2.trans (hz 4 (by omega))⟩ ⟨fun x hx => by have := ff0 x hx; simp at this; omega, fun x hx => by have := Ff.out.1 x hx; omega, fun x hx => by have := Ff.out.2.1 x hx; omega, fun x hx => by have := Ff.out.2.2.1 x hx; omega, fun x hx => by have := Ff.out.2.2.2 x hx; omega⟩
                  change Exit.inBlock _ _ Exit.normal _ (put7 w12 w7.heap.size (g * 7) (.slice t0.a t0.n t0.c) (.slice t1.a t1.n t1.c) (.slice t2.a t2.n t2.c) (.slice t3.a t3.n t3.c) (.slice t4.a t4.n t4.c) (.bool (X g)) (.bool (Y g)))
                  generalize put7 w12 w7.heap.size (g * 7) (.slice t0.a t0.n t0.c) (.slice t1.a t1.n t1.c) (.slice t2.a t2.n t2.c) (.slice t3.a t3.n t3.c) (.slice t4.a t4.n t4.c) (.bool (X g)) (.bool (Y g)) = w13 at F13 ⊢
                  have G13 : Hid (FillA w7 w13 (some ⟨w7.heap.size, 0, none⟩) k (g + 1) (zsel E M I0 I1 I2 I3) X Y) := F13
                  clear F13 S0 S1 S2 S0c S1c S2c S3c q0 q1 q2 q3 q4 q5 q6 p0 p1 p2 p3 p4 p5 p6 b0 b2 rr0 ff0 z0 Zz Ff Rr hF hF0 hnx0 r0 r1 r2 r3 r4 hE
                  go_wp2
                  go_roundw
                  case rel => exact ⟨g + 1, by omega, by go_num, G13.out⟩
                  case measure => simp [intOf]; omega
                · obtain rfl : g = k := by omega
                  rename World => w8
                  obtain ⟨T', hS', hTz'⟩ := hF.sess
                  have HTz' : Hid (∀ j, j < g → ∀ i, i < 5 → (T' j i).z = zsel E M I0 I1 I2 I3 j i) := hTz'
                  have hI8 := hI7.below hF.bel
                  have B8 : Below w.heap.size w w8 := B7.trans (hF.bel.mono B7.size)
                  clear hTz' hgk hlt hF hF0 hI7 hS B7
                  rename Nat => k
                  obtain ⟨j0, j1, j2, j3, j4, j5, j6, j7⟩ := hI8
                  go_wp2_with fail
                  refine (cloneinit_any _ I0 I1 I2 I3 j4 j5 j6 j7).mono ?_
                  rintro e w9 ⟨N0, N1, N2, N3, rfl, nr, nz, b9, -⟩
                  have NZ : Hid (N0.z = I0.z ∧ N1.z = I1.z ∧ N2.z = I2.z ∧ N3.z = I3.z) := nz
                  have NR : Hid (SR w9 N0 ∧ SR w9 N1 ∧ SR w9 N2 ∧ SR w9 N3) := nr
                  have HI9 : Hid (InitAt w9 J I0 I1 I2 I3) := InitAt.below ⟨j0, j1, j2, j3, j4, j5, j6, j7⟩ b9
                  clear nz nr j0 j1 j2 j3 j4 j5 j6 j7
                  go_upto_region 37 with fail
                  obtain ⟨w10, hw10⟩ : ∃ w10, w10 = w9.alloc (Obj.cells #[.slice N0.a N0.n N0.c, .slice N1.a N1.n N1.c, .slice N2.a N2.n N2.c, .slice N3.a N3.n N3.c] 29) := ⟨_, rfl⟩
                  have b10 : Below w9.heap.size w9 w10 := by rw [hw10]; exact (Below.refl _ _).alloc (Nat.le_refl _) _
                  have HN : Hid (InitAt w10 w9.heap.size N0 N1 N2 N3) := by
                    refine ⟨?_, ?_, ?_, ?_, NR.out.1.below b10, NR.out.2.1.below b10, NR.out.2.2.1.below b10, NR.out.2.2.2.below b10⟩
                    · rw [hw10]; simp [go_sem]
                    · rw [hw10]; simp [go_sem]
                    · rw [hw10]; simp [go_sem]
                    · rw [hw10]; simp [go_sem]
                  rw [← hw10]
                  have Bb : Below w8.heap.size w8 w10 := b9.trans (b10.mono b9.size)
                  have hS10 := hSr.below Bb
                  have hS10' := hS'.below Bb
                  have HI10 := HI9.out.below b10
                  have B10 : Below w.heap.size w w10 := B8.trans (Bb.mono B8.size)
                  generalize w9.heap.size = K at HN ⊢
                  clear hw10 b9 b10 Bb NR HI9 hSr hS' B8
                  obtain ⟨j0, j1, j2, j3, j4, j5, j6, j7⟩ := HI10
                  go_wp2_with fail
                  refine (started_any w10 al k k T X Y I0 I1 I2 I3 hS10 hk20 j4 j5 j6 j7).mono ?_
                  rintro e w11 ⟨r', rfl, hf', b11⟩
                  have hff : Hid (r' = r) := by
                    refine (FirstB.same (n := k) (p := wantB E X M I0 I1 I2 I3) ?_ hfst.out)
                    refine hf'.congr fun j hj => ?_
                    have hz := HTz.out j hj
                    simp only [startB, all4, wantB, hz 1 (by omega), hz 2 (by omega), hz 3 (by omega), hz 4 (by omega)]
                  have HI11 : Hid (InitAt w11 J I0 I1 I2 I3) := InitAt.below ⟨j0, j1, j2, j3, j4, j5, j6, j7⟩ b11
                  have HN11 : Hid (InitAt w11 K N0 N1 N2 N3) := HN.out.below b11
                  have hS11 := hS10.below b11
                  have hS11' := hS10'.below b11
                  have B11 : Below w.heap.size w w11 := B10.trans (b11.mono B10.size)
                  rw [hff.out]
                  clear hff hf' b11 j0 j1 j2 j3 j4 j5 j6 j7 HN hS10 hS10' B10 hfst
                  have hrr : (r != r) = false := by simp
                  have hkk : ((k : Int) != (k : Int)) = false := by simp
                  go_wp2
                  clear hrr hkk
                  go_loopw [26] (fun i wx => Below w11.heap.size w11 wx ∧ ∃ g : Nat, g ≤ k ∧ i = .int .i64 g) (fun i _ => k - (intOf i).toNat)
                  case atStart => exact ⟨Below.refl _ _, 0, Nat.zero_le _, rfl⟩
                  case round =>
                    obtain ⟨hbx, g, hgk, rfl⟩ := hrel
                    by_cases hlt : g < k
                    · have hSx := hS11.below hbx
                      have hSx' := hS11'.below hbx
                      obtain ⟨B, rfl, hc⟩ := hSx.spot (by omega)
                      obtain ⟨B', hB', hc'⟩ := hSx'.spot (by omega)
                      obtain rfl : B' = w7.heap.size := by simpa using hB'.symm
                      have S0c : Hid (wr.drew.cell? ⟨B, g * 7, none⟩ = some (.slice (T g 0).a (T g 0).n (T g 0).c) ∧ wr.drew.cell? ⟨B, g * 7 + 1, none⟩ = some (.slice (T g 1).a (T g 1).n (T g 1).c) ∧ wr.drew.cell? ⟨B, g * 7 + 1 + 1, none⟩ = some (.slice (T g 2).a (T g 2).n (T g 2).c) ∧ wr.drew.cell? ⟨B, g * 7 + 1 + 1 + 1, none⟩ = some (.slice (T g 3).a (T g 3).n (T g 3).c) ∧ wr.drew.cell? ⟨B, g * 7 + 1 + 1 + 1 + 1, none⟩ = some (.slice (T g 4).a (T g 4).n (T g 4).c) ∧ wr.drew.cell? ⟨B, g * 7 + 1 + 1 + 1 + 1 + 1, none⟩ = some (.bool (X g)) ∧ wr.drew.cell? ⟨B, g * 7 + 1 + 1 + 1 + 1 + 1 + 1, none⟩ = some (.bool (Y g)) ∧ wr.drew.cell? ⟨w7.heap.size, g * 7, none⟩ = some (.slice (T' g 0).a (T' g 0).n (T' g 0).c) ∧ wr.drew.cell? ⟨w7.heap.size, g * 7 + 1, none⟩ = some (.slice (T' g 1).a (T' g 1).n (T' g 1).c) ∧ wr.drew.cell? ⟨w7.heap.size, g * 7 + 1 + 1, none⟩ = some (.slice (T' g 2).a (T' g 2).n (T' g 2).c) ∧ wr.drew.cell? ⟨w7.heap.size, g * 7 + 1 + 1 + 1, none⟩ = some (.slice (T' g 3).a (T' g 3).n (T' g 3).c) ∧ wr.drew.cell? ⟨w7.heap.size, g * 7 + 1 + 1 + 1 + 1, none⟩ = some (.slice (T' g 4).a (T' g 4).n (T' g 4).c) ∧ wr.drew.cell? ⟨w7.heap.size, g * 7 + 1 + 1 + 1 + 1 + 1, none⟩ = some (.bool (X g)) ∧ wr.drew.cell? ⟨w7.heap.size, g * 7 + 1 + 1 + 1 + 1 + 1 + 1, none⟩ = some (.bool (Y g))) := by
                        obtain ⟨c0, c1, c2, c3, c4, c5, c6⟩ := hc g hlt
                        obtain ⟨d0, d1, d2, d3, d4, d5, d6⟩ := hc' g hlt
                        exact ⟨c0, c1, c2, c3, c4, c5, c6, d0, d1, d2, d3, d4, d5, d6⟩
                      have hz := HTz.out g hlt
                      have hz' := HTz'.out g hlt
                      have E0 : Hid ((T g 0).z = (T' g 0).z) := (hz 0 (by omega)).trans (hz' 0 (by omega)).symm
                      have E1 : Hid ((T g 1).z = (T' g 1).z) := (hz 1 (by omega)).trans (hz' 1 (by omega)).symm
                      have E2 : Hid ((T g 2).z = (T' g 2).z) := (hz 2 (by omega)).trans (hz' 2 (by omega)).symm
                      have E3 : Hid ((T g 3).z = (T' g 3).z) := (hz 3 (by omega)).trans (hz' 3 (by omega)).symm
                      have E4 : Hid ((T g 4).z = (T' g 4).z) := (hz 4 (by omega)).trans (hz' 4 (by omega)).symm
                      have bd : Below wr.heap.size wr wr.drew := (Below.refl _ _).drew
                      have hgi : (g : Int) < (k : Int) := by omega
                      clear hc hc' hB' hz hz'
                      go_wp2_with fail
                      go_region_held3 (fun w' => w'.cell? ⟨B, g * 7, none⟩ = some (.slice (T g 0).a (T g 0).n (T g 0).c) ∧ w'.cell? ⟨B, g * 7 + 1, none⟩ = some (.slice (T g 1).a (T g 1).n (T g 1).c) ∧ w'.cell? ⟨B, g * 7 + 1 + 1, none⟩ = some (.slice (T g 2).a (T g 2).n (T g 2).c) ∧ w'.cell? ⟨B, g * 7 + 1 + 1 + 1, none⟩ = some (.slice (T g 3).a (T g 3).n (T g 3).c) ∧ w'.cell? ⟨B, g * 7 + 1 + 1 + 1 + 1, none⟩ = some (.slice (T g 4).a (T g 4).n (T g 4).c) ∧ w'.cell? ⟨B, g * 7 + 1 + 1 + 1 + 1 + 1, none⟩ = some (.bool (X g)) ∧ w'.cell? ⟨B, g * 7 + 1 + 1 + 1 + 1 + 1 + 1, none⟩ = some (.bool (Y g)) ∧ w'.cell? ⟨w7.heap.size, g * 7, none⟩ = some (.slice (T' g 0).a (T' g 0).n (T' g 0).c) ∧ w'.cell? ⟨w7.heap.size, g * 7 + 1, none⟩ = some (.slice (T' g 1).a (T' g 1).n (T' g 1).c) ∧ w'.cell? ⟨w7.heap.size, g * 7 + 1 + 1, none⟩ = some (.slice (T' g 2).a (T' g 2).n (T' g 2).c) ∧ w'.cell? ⟨w7.heap.size, g * 7 + 1 + 1 + 1, none⟩ = some (.slice (T' g 3).a (T' g 3).n (T' g 3).c) ∧ w'.cell? ⟨w7.heap.size, g * 7 + 1 + 1 + 1 + 1, none⟩ = some (.slice (T' g 4).a (T' g 4).n (T' g 4).c) ∧ w'.cell? ⟨w7.heap.size, g * 7 + 1 + 1 + 1 + 1 + 1, none⟩ = some (.bool (X g)) ∧ w'.cell? ⟨w7.heap.size, g * 7 + 1 + 1 + 1 + 1 + 1 + 1, none⟩ = some (.bool (Y g)))
                        (first | with_reducible exact S0c.out | with_reducible exact S1c.out)
                        (first
                          | (go_at_call 9; refine (samesession_yes _ (T g 0) (T g 1) (T g 2) (T g 3) (T g 4) (T' g 0) (T' g 1) (T' g 2) (T' g 3) (T' g 4) (X g) (Y g) ((hSx.row g hlt 0 (by omega)).below bd) ((hSx.row g hlt 1 (by omega)).below bd) ((hSx.row g hlt 2 (by omega)).below bd) ((hSx.row g hlt 3 (by omega)).below bd) ((hSx.row g hlt 4 (by omega)).below bd) ((hSx'.row g hlt 0 (by omega)).below bd) ((hSx'.row g hlt 1 (by omega)).below bd) ((hSx'.row g hlt 2 (by omega)).below bd) ((hSx'.row g hlt 3 (by omega)).below bd) ((hSx'.row g hlt 4 (by omega)).below bd) E0.out E1.out E2.out E3.out E4.out).mono ?_; rintro e w12 ⟨rfl, b12⟩; have Bx : Hid (Below w11.heap.size w11 w12) := (hbx.drew).trans (b12.mono (show w11.heap.size ≤ wr.heap.size from hbx.size)); have S1c : Hid (w12.cell? ⟨B, g * 7, none⟩ = some (.slice (T g 0).a (T g 0).n (T g 0).c) ∧ w12.cell? ⟨B, g * 7 + 1, none⟩ = some (.slice (T g 1).a (T g 1).n (T g 1).c) ∧ w12.cell? ⟨B, g * 7 + 1 + 1, none⟩ = some (.slice (T g 2).a (T g 2).n (T g 2).c) ∧ w12.cell? ⟨B, g * 7 + 1 + 1 + 1, none⟩ = some (.slice (T g 3).a (T g 3).n (T g 3).c) ∧ w12.cell? ⟨B, g * 7 + 1 + 1 + 1 + 1, none⟩ = some (.slice (T g 4).a (T g 4).n (T g 4).c) ∧ w12.cell? ⟨B, g * 7 + 1 + 1 + 1 + 1 + 1, none⟩ = some (.bool (X g)) ∧ w12.cell? ⟨B, g * 7 + 1 + 1 + 1 + 1 + 1 + 1, none⟩ = some (.bool (Y g)) ∧ w12.cell? ⟨w7.heap.size, g * 7, none⟩ = some (.slice (T' g 0).a (T' g 0).n (T' g 0).c) ∧ w12.cell? ⟨w7.heap.size, g * 7 + 1, none⟩ = some (.slice (T' g 1).a (T' g 1).n (T' g 1).c) ∧ w12.cell? ⟨w7.heap.size, g * 7 + 1 + 1, none⟩ = some (.slice (T' g 2).a (T' g 2).n (T' g 2).c) ∧ w12.cell? ⟨w7.heap.size, g * 7 + 1 + 1 + 1, none⟩ = some (.slice (T' g 3).a (T' g 3).n (T' g 3).c) ∧ w12.cell? ⟨w7.heap.size, g * 7 + 1 + 1 + 1 + 1, none⟩ = some (.slice (T' g 4).a (T' g 4).n (T' g 4).c) ∧ w12.cell? ⟨w7.heap.size, g * 7 + 1 + 1 + 1 + 1 + 1, none⟩ = some (.bool (X g)) ∧ w12.cell? ⟨w7.heap.size, g * 7 + 1 + 1 + 1 + 1 + 1 + 1, none⟩ = some (.bool (Y g))) := by (obtain ⟨c0, c1, c2, c3, c4, c5, c6, d0, d1, d2, d3, d4, d5, d6⟩ := S0c.out; exact ⟨(b12.cell (cell_lt c0)).trans c0, (b12.cell (cell_lt c1)).trans c1, (b12.cell (cell_lt c2)).trans c2, (b12.cell (cell_lt c3)).trans c3, (b12.cell (cell_lt c4)).trans c4, (b12.cell (cell_lt c5)).trans c5, (b12.cell (cell_lt c6)).trans c6, (b12.cell (cell_lt d0)).trans d0, (b12.cell (cell_lt d1)).trans d1, (b12.cell (cell_lt d2)).trans d2, (b12.cell (cell_lt d3)).trans d3, (b12.cell (cell_lt d4)).trans d4, (b12.cell (cell_lt d5)).trans d5, (b12.cell (cell_lt d6)).trans d6⟩)))
                      clear S0c S1c E0 E1 E2 E3 E4 b12 hSx hSx'
                      go_wp2
                      go_roundw
                      case rel => exact ⟨Bx.out, g + 1, by omega, by go_num⟩
                      case measure => simp [intOf]; omega
                    · obtain rfl : g = k := by omega
                      obtain ⟨j0, j1, j2, j3, j4, j5, j6, j7⟩ := HI11.out.below hbx
                      obtain ⟨m0, m1, m2, m3, m4, m5, m6, m7⟩ := HN11.out.below hbx
                      have hA : Hid (all4 I0 I1 I2 I3 N0 N1 N2 N3 = true) := by show _ = _; simp [all4, eqB, NZ.out.1, NZ.out.2.1, NZ.out.2.2.1, NZ.out.2.2.2]
                      have Bw : Below w.heap.size w wr := B11.trans (hbx.mono B11.size)
                      clear hbx HI11 HN11 hS11 hS11' B11
                      go_wp2_with fail
                      refine (sameinit_any _ I0 I1 I2 I3 N0 N1 N2 N3 j4 j5 j6 j7 m4 m5 m6 m7).mono ?_
                      rintro e w13 ⟨rfl, b13⟩
                      rw [hA.out]
                      have Bz : Below w.heap.size w w13 := Bw.trans (b13.mono Bw.size)
                      clear b13 Bw j0 j1 j2 j3 j4 j5 j6 j7 m0 m1 m2 m3 m4 m5 m6 m7
                      go_wp2
                      go_ret
                      exact ⟨rfl, Bz⟩

end Go.Proofs.Ybulkdneo
