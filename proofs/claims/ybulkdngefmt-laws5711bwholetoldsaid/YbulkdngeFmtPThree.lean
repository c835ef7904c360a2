/-
  Seat b5711aF: the law from the call of entryKey on.
-/
import Derived.Test.YbulkdngeFmtPFour
import Derived.Laws.StructEq
namespace Go.Proofs.YbulkdngeFmt
open Go.RowKit Go.Extern.Stop Go.Stop Go.Extern
set_option linter.unusedVariables false

theorem Ybaf.guard30 : Ybaf.prog.eqGuardType Ybaf.prog.depth 30 = false := by kernel_rfl
theorem Ybaf.struct30 : Ybaf.prog.underlying 30 = some (.struct (Ybaf.prog.fieldsOf 30)) := by kernel_rfl
theorem Ybaf.held30 : Ybaf.prog.stoodInHeld 30 = false := by kernel_rfl
theorem Ybaf.flt24 (a b : Nat) (w : World) : (Op.equalIn 9999 24 (.float .f64 a) (.float .f64 b)).run Ybaf.prog w = .ok (FloatKind.f64.format.order a b == some Ordering.eq) w := by kernel_rfl
theorem Ybaf.same30 (q i : Int) (fb : Nat) (s : ByteArray) (w : World) : (Op.equalIn 10000 30 (.agg #[.int .u8 q, .int .i64 i, .float .f64 fb, .string s]) (.agg #[.int .u8 q, .int .i64 i, .float .f64 fb, .string s])).run Ybaf.prog w = .ok (FloatKind.f64.format.order fb fb == some Ordering.eq) w := by
  rw [show (10000 : Nat) = 9999 + 1 from rfl, run_equalIn_agg w 9999 30 _ _ Ybaf.struct30 Ybaf.held30]
  simp only [Program.fieldsOf, Ybaf.underlying30]
  go_simp
  rw [Ybaf.flt24, Result.andThen_ok]
  cases FloatKind.f64.format.order fb fb == some Ordering.eq <;> rfl
theorem belowN {B : Nat} {w w' : World} (h : Below B w w') : ∀ k, Below B w (w'.drewN k)
  | 0 => h
  | k + 1 => (belowN h k).drew
theorem Out.below {w w' : World} {B n : Nat} {bs : List Int} {pv : Int} {E : Nat} {q : Int} {v22 v23 v24 : Value} (h : Out w B n bs pv E q v22 v23 v24) (hb : Below w.heap.size w w') : Out w' B n bs pv E q v22 v23 v24 := by
  rcases h with ⟨rfl, rfl, rfl, h, h0⟩ | ⟨rfl, N, G, rfl, rfl, rfl, hs, hG⟩ | ⟨rfl, N, rfl, rfl, rfl, hs⟩ | ⟨rfl, N, rfl, rfl, rfl, hs, hpv⟩ | ⟨rfl, N, rfl, rfl, hs, hpv, h, h0⟩
  · exact .m0 _ (h.below hb) h0
  · exact .m1 N G (hs.below hb) ((hb.cell (cell_lt hG)).trans hG)
  · exact .m2 N (hs.below hb)
  · exact .m3z N (hs.below hb) hpv
  · exact .m3 N (hs.below hb) hpv _ (h.below hb) h0
theorem Out.ptr {w : World} {B n : Nat} {bs : List Int} {pv : Int} {E : Nat} {q : Int} {po : Option Addr} {v23 v24 : Value} (h : Out w B n bs pv E q (.pointer po) v23 v24) : po = none ∨ ∃ N, po = some ⟨N, 0, none⟩ ∧ Seen w N n := by
  rcases h with ⟨_, e, _⟩ | ⟨_, N, G, e, _, _, hs, _⟩ | ⟨_, N, e, _, _, hs⟩ | ⟨_, N, e, _, _, hs, _⟩ | ⟨_, N, e, _, hs, _⟩
  · exact .inl (Value.pointer.inj e)
  · exact .inr ⟨N, Value.pointer.inj e, hs⟩
  · exact .inr ⟨N, Value.pointer.inj e, hs⟩
  · exact .inr ⟨N, Value.pointer.inj e, hs⟩
  · exact .inr ⟨N, Value.pointer.inj e, hs⟩
theorem Out.forms {w : World} {B n : Nat} {bs : List Int} {pv : Int} {E : Nat} {q : Int} {v22 v23 v24 : Value} (h : Out w B n bs pv E q v22 v23 v24) : ∃ ag ng cg, v23 = .slice ag ng cg := by
  rcases h with ⟨_, _, _, h, _⟩ | ⟨_, N, G, _, rfl, _⟩ | ⟨_, N, _, rfl, _⟩ | ⟨_, N, _, rfl, _⟩ | ⟨_, N, _, _, _, _, h, _⟩
  · obtain ⟨a, b, c, e, _⟩ := h.row; exact ⟨a, b, c, e⟩
  · exact ⟨_, _, _, rfl⟩
  · exact ⟨_, _, _, rfl⟩
  · exact ⟨_, _, _, rfl⟩
  · obtain ⟨a, b, c, e, _⟩ := h.row; exact ⟨a, b, c, e⟩

set_option maxHeartbeats 8000000 in
set_option maxRecDepth 1000000 in
theorem p3 {x1 x3 x5 x6 x7 x8 x9 x10 x11 x12 x14 x16 x23 x24 x25 x26 x27 x28 x29 x30 x31 x32 x33 x34 x35 x36 x37 x38 x39 x40 x41 x42 x43 x44 x45 x46 x47 x48 x49 x50 x51 x52 x53 x54 x55 x56 x57 x58 x59 x60 x61 x62 x63 x64 x65 x66 x67 x68 x69 x70 x71 x72 x73 x74 x75 x76 x77 x78 x79 x80 x81 x82 x83 x84 x85 x86 x87 x88 x89 x90 x91 x92 x93 x94 x95 x96 x97 x98 x99 x100 x101 x102 x103 x104 x105 x106 x107 x108 x109 x110 x111 x112 x113 x114 x115 x116 x117 x118 x119 x120 x121 x122 x123 x124 x125 x126 x127 x128 x129 x130 x131 x132 x133 x134 x135 x136 x137 x138 x139 x140 x141 x142 x143 x144 x145 x146 x147 x148 x149 x150 x151 x152 x153 x154 x155 x156 x157 x158 x159 x160 x161 x162 x163 x164 x165 x166 x167 x168 x169 x170 x171 x172 x173 x174 x175 x176 x177 x178 x179 x180 x181 x182 x183 x184 x185 x186 x187 x188 x189 x190 x191 x192 x193 x194 x195 x196 x197 x198 x199 x200 x201 x202 x203 x204 x205 x206 x207 x208 x209 x210 x211 x212 x213 x214 x215 x216 x217 x218 x219 x220 x221 x222 x223 x224 x225 x226 x227 x228 x229 x230 x231 x232 x233 x234 x235 x236 x237 x238 x239 x240 x241 x242 x243 x244 x245 x246 x247 x248 x249 x250 x251 x252 x253 x254 x255 x256 x257 x258 x259 x260 x261 x262 x263 x264 x265 x266 : Value} (F : Interp) (w w0 v : World) (a0 a2 ak ac : Option Addr) (n c0 n2 c2 nk ck m cc E R RC rcc X : Nat) (pv q : Int) (po : Option Addr) (pi : Value) (C : Nat → Cel) (ks : Nat → Nat) (zs : List Int) (nm es : ByteArray) (hF : F.answers v.tape) (hK : Known w w0 v a0 a2 ak ac n n2 c2 nk ck m C ks zs) (hG : Ground w0 R n ac m ks C a2 n2 c2 zs) (hV2 : Vals w0 RC n C) (hX : w0.heap.size ≤ X) (ix : Ix v X nm (.slice ac m cc) pi) (hE : v.cell? ⟨E, 0, none⟩ = some (.string es)) (hp : PredIs v pv X E q (.pointer po) pi) (hnil : ak.isNone = a2.isNone) :
    Code.wp Ybaf.prog ((Ybaf.f3.body.bind (tailFrom 36)).getD .skip) (bodyPost Ybaf.prog Ybaf.f3 (fun e w' => e = .returned (.bool true) ∧ Below w.heap.size w w')) ⟨#[.slice a0 n c0, x1, .slice a2 n2 c2, x3, .int .i64 pv, x5, x6, x7, x8, x9, x10, x11, x12, .slice (some ⟨R, 0, none⟩) n n, x14, .slice ac m cc, x16, .slice ak nk ck, .slice (some ⟨RC, 0, none⟩) n rcc, .pointer (some ⟨X, 0, none⟩), .iface 60 (.pointer (some ⟨E, 0, none⟩)), .int .u8 q, .pointer po, x23, x24, x25, x26, x27, x28, x29, x30, x31, x32, x33, x34, x35, x36, x37, x38, x39, x40, x41, x42, x43, x44, x45, x46, x47, x48, x49, x50, x51, x52, x53, x54, x55, x56, x57, x58, x59, x60, x61, x62, x63, x64, x65, x66, x67, x68, x69, x70, x71, x72, x73, x74, x75, x76, x77, x78, x79, x80, x81, x82, x83, x84, x85, x86, x87, x88, x89, x90, x91, x92, x93, x94, x95, x96, x97, x98, x99, x100, x101, x102, x103, x104, x105, x106, x107, x108, x109, x110, x111, x112, x113, x114, x115, x116, x117, x118, x119, x120, x121, x122, x123, x124, x125, x126, x127, x128, x129, x130, x131, x132, x133, x134, x135, x136, x137, x138, x139, x140, x141, x142, x143, x144, x145, x146, x147, x148, x149, x150, x151, x152, x153, x154, x155, x156, x157, x158, x159, x160, x161, x162, x163, x164, x165, x166, x167, x168, x169, x170, x171, x172, x173, x174, x175, x176, x177, x178, x179, x180, x181, x182, x183, x184, x185, x186, x187, x188, x189, x190, x191, x192, x193, x194, x195, x196, x197, x198, x199, x200, x201, x202, x203, x204, x205, x206, x207, x208, x209, x210, x211, x212, x213, x214, x215, x216, x217, x218, x219, x220, x221, x222, x223, x224, x225, x226, x227, x228, x229, x230, x231, x232, x233, x234, x235, x236, x237, x238, x239, x240, x241, x242, x243, x244, x245, x246, x247, x248, x249, x250, x251, x252, x253, x254, x255, x256, x257, x258, x259, x260, x261, x262, x263, x264, x265, x266], []⟩ v := by
  have q23 := eq23
  have HN : Hid _ := hnil
  clear hnil
  conv => arg 2; whnf
  go_wp2_with fail
  refine (entry_any F w0 v X E R n n nm es ac m cc ks C a2 n2 c2 zs q pv _ pi hF hG hK.b1 hX ix hE hp).mono ?_
  rintro e w8 ⟨v23, v24, rfl, hO, hb8⟩
  have hK8 : Known w w0 w8 a0 a2 ak ac n n2 c2 nk ck m C ks zs := { hK with b1 := hb8 }
  have r1 := hK8.key.below hb8
  have r2 := hK8.copy.below hb8
  have hv1 := hG.vals.below hb8
  have hv2 := hV2.below hb8
  have hn := hK.hn
  clear hK hp ix hE hG hV2 hF hX
  go_wp2_with fail
  refine (equal_same w8 _ _ _ _ _ _ _ r1 r2).mono ?_
  rintro e w' ⟨rfl, rfl⟩
  have hnn : (a2.isNone == ak.isNone) = true := by rw [HN.out]; simp
  clear r1 r2
  go_wp2
  go_loopw [25] (fun v25 wr => ∃ k : Nat, k ≤ n ∧ v25 = .int .i64 (k : Int) ∧ Below w'.heap.size w' wr) (fun v25 _ => n - (intOf v25).toNat)
  case atStart => exact ⟨0, Nat.zero_le _, rfl, Below.refl _ _⟩
  case round =>
    obtain ⟨k, hk, rfl, hB⟩ := hrel
    rcases Nat.lt_or_ge k n with hlt | hge
    · have hki : (k : Int) < (n : Int) := by omega
      have A := hv1.below hB
      have B := hv2.below hB
      have a0' := A.c0 k hlt
      have a1' := A.c1 k hlt
      have a2' := A.c2 k hlt
      have a3' := A.c3 k hlt
      have b0' := B.c0 k hlt
      have b1' := B.c1 k hlt
      have b2' := B.c2 k hlt
      have b3' := B.c3 k hlt
      clear A B hv1 hv2
      cases hbb : (FloatKind.f64.format.order (C k).vf (C k).vf == some Ordering.eq) with
      | true =>
        have hsame := Ybaf.same30 (C k).vq (C k).vi (C k).vf (C k).vs
        rw [hbb] at hsame
        have hgd := Ybaf.guard30
        clear hbb
        go_upto_region 42 with fail
        go_quiet (fail)
        have hB2 := belowN hB nq
        go_wp2
        exact ⟨⟨k + 1, hlt, by simp, hB2⟩, by simp [intOf]; omega⟩
      | false =>
        have hsame := Ybaf.same30 (C k).vq (C k).vi (C k).vf (C k).vs
        rw [hbb] at hsame
        have hgd := Ybaf.guard30
        clear hbb
        go_upto_region 42 with fail
        go_quiet (fail)
        have hB2 := belowN hB nq
        go_wp2
        exact ⟨⟨k + 1, hlt, by simp, hB2⟩, by simp [intOf]; omega⟩
    · obtain rfl : k = n := by omega
      have hKr := hK8.next (hB.mono hb8.size)
      have hOr := hO.below hB
      have HO : Hid (Out wr w0.heap.size k (encs C ks m ++ zs) pv E q (.pointer po) v23 v24) := hOr
      have HK : Hid _ := hKr
      clear hKr hK8 hO hB hv1 hv2 hb8
      obtain ⟨ag, ng, cg, rfl⟩ := hOr.forms
      rcases hOr.ptr with rfl | ⟨N, rfl, hS⟩
      · clear hOr
        go_upto_if 189 with fail
        go_cut [22] (fun v22 wx => v22 = .pointer none ∧ wx = wr)
        case first =>
          go_wp2
          go_meet
          case rel => exact ⟨rfl, rfl⟩
        case rest =>
          rename_i hgo
          obtain ⟨rfl, rfl⟩ := hcut
          exact hgo _ _ (p4 w w0 wc a0 a2 ak ac k c0 n2 c2 nk ck m cc E pv C ks zs HK.out q _ _ _ HO.out)
      · have s5 := hS.calls
        have s6 := hS.seen
        clear hOr hS
        go_upto_if 189 with fail
        go_cut [22] (fun v22 wx => v22 = .pointer (some ⟨N, 0, none⟩) ∧ wx = wr)
        case first =>
          go_wp2
          go_meet
          case rel => exact ⟨rfl, rfl⟩
        case rest =>
          rename_i hgo
          obtain ⟨rfl, rfl⟩ := hcut
          exact hgo _ _ (p4 w w0 wc a0 a2 ak ac k c0 n2 c2 nk ck m cc E pv C ks zs HK.out q _ _ _ HO.out)
end Go.Proofs.YbulkdngeFmt
