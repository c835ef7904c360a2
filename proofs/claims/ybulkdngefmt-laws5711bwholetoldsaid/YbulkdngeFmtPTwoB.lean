/-
  Seat b5711aF: the law at 'if p != nil'.
-/
import Derived.Test.YbulkdngeFmtPThree
namespace Go.Proofs.YbulkdngeFmt
open Go.RowKit Go.Extern.Stop Go.Stop Go.Extern
set_option linter.unusedVariables false

/-- What p3 asks. -/
structure In3 (F : Interp) (w w0 v : World) (a0 a2 ak ac : Option Addr) (n n2 c2 nk ck m cc R RC X : Nat) (pv q : Int) (po : Option Addr) (pi : Value) (C : Nat → Cel) (ks : Nat → Nat) (zs : List Int) : Prop where
  hF : F.answers v.tape
  hK : Known w w0 v a0 a2 ak ac n n2 c2 nk ck m C ks zs
  hG : Ground w0 R n ac m ks C a2 n2 c2 zs
  hV2 : Vals w0 RC n C
  hX : w0.heap.size ≤ X
  ix : Ix v X ⟨#[122, 122]⟩ (.slice ac m cc) pi
  hE : v.cell? ⟨X + 1, 0, none⟩ = some (.string ⟨#[122, 122]⟩)
  hp : PredIs v pv X (X + 1) q (.pointer po) pi
  hnil : ak.isNone = a2.isNone

set_option maxHeartbeats 8000000 in
set_option maxRecDepth 1000000 in
theorem p2b {x1 x3 x5 x6 x7 x8 x9 x10 x11 x12 x14 x16 x23 x24 x25 x26 x27 x28 x29 x30 x31 x32 x33 x34 x35 x36 x37 x38 x39 x40 x41 x42 x43 x44 x45 x46 x47 x48 x49 x50 x51 x52 x53 x54 x55 x56 x57 x58 x59 x60 x61 x62 x63 x64 x65 x66 x67 x68 x69 x70 x71 x72 x73 x74 x75 x76 x77 x78 x79 x80 x81 x82 x83 x84 x85 x86 x87 x88 x89 x90 x91 x92 x93 x94 x95 x96 x97 x98 x99 x100 x101 x102 x103 x104 x105 x106 x107 x108 x109 x110 x111 x112 x113 x114 x115 x116 x117 x118 x119 x120 x121 x122 x123 x124 x125 x126 x127 x128 x129 x130 x131 x132 x133 x134 x135 x136 x137 x138 x139 x140 x141 x142 x143 x144 x145 x146 x147 x148 x149 x150 x151 x152 x153 x154 x155 x156 x157 x158 x159 x160 x161 x162 x163 x164 x165 x166 x167 x168 x169 x170 x171 x172 x173 x174 x175 x176 x177 x178 x179 x180 x181 x182 x183 x184 x185 x186 x187 x188 x189 x190 x191 x192 x193 x194 x195 x196 x197 x198 x199 x200 x201 x202 x203 x204 x205 x206 x207 x208 x209 x210 x211 x212 x213 x214 x215 x216 x217 x218 x219 x220 x221 x222 x223 x224 x225 x226 x227 x228 x229 x230 x231 x232 x233 x234 x235 x236 x237 x238 x239 x240 x241 x242 x243 x244 x245 x246 x247 x248 x249 x250 x251 x252 x253 x254 x255 x256 x257 x258 x259 x260 x261 x262 x263 x264 x265 x266 : Value} (F : Interp) (w w0 wE v : World) (a0 a2 ak ac : Option Addr) (n c0 n2 c2 nk ck m cc R RC rcc X : Nat) (pv q : Int) (po : Option Addr) (pi : Value) (C : Nat → Cel) (ks : Nat → Nat) (zs : List Int) (hF : F.answers w.tape)
    (hKn : ∀ v, Below w0.heap.size w0 v → Known w w0 v a0 a2 ak ac n n2 c2 nk ck m C ks zs) (hG : Ground w0 R n ac m ks C a2 n2 c2 zs) (hV2 : Vals w0 RC n C) (hX : w0.heap.size = X) (hnil : ak.isNone = a2.isNone) (hbE : Below w0.heap.size w0 wE) (hIx : IxNew wE X ⟨#[122, 122]⟩ (.slice ac m cc)) (hbx : Below wE.heap.size wE v) (hPI : PredIs v pv X (X + 1) q (.pointer po) pi) :
    Code.wp Ybaf.prog ((Ybaf.f3.body.bind (tailFrom 34)).getD .skip) (bodyPost Ybaf.prog Ybaf.f3 (fun e w' => e = .returned (.bool true) ∧ Below w.heap.size w w')) ⟨#[.slice a0 n c0, x1, .slice a2 n2 c2, x3, .int .i64 pv, x5, x6, x7, x8, x9, x10, x11, x12, .slice (some ⟨R, 0, none⟩) n n, x14, .slice ac m cc, x16, .slice ak nk ck, .slice (some ⟨RC, 0, none⟩) n rcc, .pointer (some ⟨X, 0, none⟩), .iface 60 (.pointer (some ⟨X + 1, 0, none⟩)), .int .u8 q, .pointer po, x23, x24, x25, x26, x27, x28, x29, x30, x31, x32, x33, x34, x35, x36, x37, x38, x39, x40, x41, x42, x43, x44, x45, x46, x47, x48, x49, x50, x51, x52, x53, x54, x55, x56, x57, x58, x59, x60, x61, x62, x63, x64, x65, x66, x67, x68, x69, x70, x71, x72, x73, x74, x75, x76, x77, x78, x79, x80, x81, x82, x83, x84, x85, x86, x87, x88, x89, x90, x91, x92, x93, x94, x95, x96, x97, x98, x99, x100, x101, x102, x103, x104, x105, x106, x107, x108, x109, x110, x111, x112, x113, x114, x115, x116, x117, x118, x119, x120, x121, x122, x123, x124, x125, x126, x127, x128, x129, x130, x131, x132, x133, x134, x135, x136, x137, x138, x139, x140, x141, x142, x143, x144, x145, x146, x147, x148, x149, x150, x151, x152, x153, x154, x155, x156, x157, x158, x159, x160, x161, x162, x163, x164, x165, x166, x167, x168, x169, x170, x171, x172, x173, x174, x175, x176, x177, x178, x179, x180, x181, x182, x183, x184, x185, x186, x187, x188, x189, x190, x191, x192, x193, x194, x195, x196, x197, x198, x199, x200, x201, x202, x203, x204, x205, x206, x207, x208, x209, x210, x211, x212, x213, x214, x215, x216, x217, x218, x219, x220, x221, x222, x223, x224, x225, x226, x227, x228, x229, x230, x231, x232, x233, x234, x235, x236, x237, x238, x239, x240, x241, x242, x243, x244, x245, x246, x247, x248, x249, x250, x251, x252, x253, x254, x255, x256, x257, x258, x259, x260, x261, x262, x263, x264, x265, x266], []⟩ v := by
  have i0 := hIx.ix.name
  have i3 := hIx.ix.cols
  have i6 := hIx.ix.pred
  have hx0 := (hbx.cell (cell_lt i0)).trans i0
  have hx3 := (hbx.cell (cell_lt i3)).trans i3
  have hx6 := (hbx.cell (cell_lt i6)).trans i6
  have hxf : v.frozen? ⟨X, 6, none⟩ = false := (frozen_of_block (hbx.block X (cell_lt i6))).trans hIx.f6
  have he0 := (hbx.cell (cell_lt hIx.e0)).trans hIx.e0
  have hBX : Below w0.heap.size w0 v := hbE.trans (hbx.mono hbE.size)
  have IX : Ix v X ⟨#[122, 122]⟩ (.slice ac m cc) .nilIface := ⟨hx0, hx3, hx6⟩
  have hgo : ∀ v', Below w0.heap.size w0 v' → F.answers v'.tape := fun v' h => by rw [(hKn v' h).all.tape]; exact hF
  have FIN : Hid (∀ v', Below w0.heap.size w0 v' → Ix v' X ⟨#[122, 122]⟩ (.slice ac m cc) pi → v'.cell? ⟨X + 1, 0, none⟩ = some (.string ⟨#[122, 122]⟩) → PredIs v' pv X (X + 1) q (.pointer po) pi → In3 F w w0 v' a0 a2 ak ac n n2 c2 nk ck m cc R RC X pv q po pi C ks zs) := fun v' h1 h2 h3 h4 => ⟨hgo v' h1, hKn v' h1, hG, hV2, Nat.le_of_eq hX, h2, h3, h4, hnil⟩
  have HBX : Hid _ := hBX
  have HIX : Hid _ := IX
  have HE0 : Hid _ := he0
  have HX : Hid _ := hX
  clear i0 i3 i6 hx0 hx3 he0 hIx hbx hbE hKn hG hV2 hF hgo hBX IX hX
  conv => arg 2; whnf
  go_upto_if 122 with fail
  go_cut [22] (fun v22 wx => v22 = .pointer po ∧ In3 F w w0 wx a0 a2 ak ac n n2 c2 nk ck m cc R RC X pv q po pi C ks zs)
  case first =>
    have HPI : Hid (PredIs v pv X (X + 1) q (.pointer po) pi) := hPI
    rcases hPI with ⟨rfl, e, rfl⟩ | ⟨rfl, N, e, rfl, _, _, _, _⟩ | ⟨rfl, N, e, rfl, _, _, _⟩ | ⟨rfl, N, e, rfl, _, _, _⟩
    · obtain rfl := Value.pointer.inj e
      clear e
      go_wp2
      go_meet
      case rel => exact ⟨rfl, FIN.out _ HBX.out HIX.out HE0.out HPI.out⟩
    · obtain rfl := Value.pointer.inj e
      clear e
      go_wp2
      go_meet
      case rel => exact ⟨rfl, FIN.out _ (HBX.out.setCell (Nat.le_of_eq HX.out) _) (HIX.out.set _) ((cell_other _ none (by simp)).trans HE0.out) (HPI.out.set _)⟩
    · obtain rfl := Value.pointer.inj e
      clear e
      go_wp2
      go_meet
      case rel => exact ⟨rfl, FIN.out _ (HBX.out.setCell (Nat.le_of_eq HX.out) _) (HIX.out.set _) ((cell_other _ none (by simp)).trans HE0.out) (HPI.out.set _)⟩
    · obtain rfl := Value.pointer.inj e
      clear e
      go_wp2
      go_meet
      case rel => exact ⟨rfl, FIN.out _ (HBX.out.setCell (Nat.le_of_eq HX.out) _) (HIX.out.set _) ((cell_other _ none (by simp)).trans HE0.out) (HPI.out.set _)⟩
  case rest =>
    rename_i hgo
    obtain ⟨rfl, h⟩ := hcut
    exact hgo _ _ (p3 F w w0 wc a0 a2 ak ac n c0 n2 c2 nk ck m cc (X + 1) R RC rcc X pv q po pi C ks zs ⟨#[122, 122]⟩ ⟨#[122, 122]⟩ h.hF h.hK h.hG h.hV2 h.hX h.ix h.hE h.hp h.hnil)
end Go.Proofs.YbulkdngeFmt
