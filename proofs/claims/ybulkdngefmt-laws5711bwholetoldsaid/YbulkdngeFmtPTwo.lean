/-
  Seat b5711aF: the law from its clones to the call of entryKey.
-/
import Derived.Test.YbulkdngeFmtPTwoB
namespace Go.Proofs.YbulkdngeFmt
open Go.RowKit Go.Extern.Stop Go.Stop Go.Extern
set_option linter.unusedVariables false

set_option maxHeartbeats 8000000 in
set_option maxRecDepth 1000000 in
theorem p2 {x1 x5 x6 x7 x8 x9 x10 x11 x12 x14 x16 x17 x18 x19 x20 x21 x22 x23 x24 x25 x26 x27 x28 x29 x30 x31 x32 x33 x34 x35 x36 x37 x38 x39 x40 x41 x42 x43 x44 x45 x46 x47 x48 x49 x50 x51 x52 x53 x54 x55 x56 x57 x58 x59 x60 x61 x62 x63 x64 x65 x66 x67 x68 x69 x70 x71 x72 x73 x74 x75 x76 x77 x78 x79 x80 x81 x82 x83 x84 x85 x86 x87 x88 x89 x90 x91 x92 x93 x94 x95 x96 x97 x98 x99 x100 x101 x102 x103 x104 x105 x106 x107 x108 x109 x110 x111 x112 x113 x114 x115 x116 x117 x118 x119 x120 x121 x122 x123 x124 x125 x126 x127 x128 x129 x130 x131 x132 x133 x134 x135 x136 x137 x138 x139 x140 x141 x142 x143 x144 x145 x146 x147 x148 x149 x150 x151 x152 x153 x154 x155 x156 x157 x158 x159 x160 x161 x162 x163 x164 x165 x166 x167 x168 x169 x170 x171 x172 x173 x174 x175 x176 x177 x178 x179 x180 x181 x182 x183 x184 x185 x186 x187 x188 x189 x190 x191 x192 x193 x194 x195 x196 x197 x198 x199 x200 x201 x202 x203 x204 x205 x206 x207 x208 x209 x210 x211 x212 x213 x214 x215 x216 x217 x218 x219 x220 x221 x222 x223 x224 x225 x226 x227 x228 x229 x230 x231 x232 x233 x234 x235 x236 x237 x238 x239 x240 x241 x242 x243 x244 x245 x246 x247 x248 x249 x250 x251 x252 x253 x254 x255 x256 x257 x258 x259 x260 x261 x262 x263 x264 x265 x266 : Value} (F : Interp) (w wc : World) (a0 a2 ac : Option Addr) (j c0 n2 c2 m cc R : Nat) (pm pv : Int) (C : Nat → Cel) (ks : Nat → Nat) (zs : List Int) (hF : F.answers w.tape) (hC : Cells w a0 j C) (hR2 : Row w a2 n2 c2 zs) (OK : ∀ i, i < j → (C i).Ok) (hn0 : j ≤ 65536) (hn2 : n2 ≤ 1048576) (hpm0 : 0 ≤ pm) (hpm1 : pm ≤ 255)
    (hBc : Below w.heap.size w wc) (hVc : Vals wc R j C) (hCols : Cols wc ac m ks) (hks : ∀ i, i < m → ks i < j) (hm : m ≤ 65536) :
    Code.wp Ybaf.prog ((Ybaf.f3.body.bind (tailFrom 21)).getD .skip) (bodyPost Ybaf.prog Ybaf.f3 (fun e w' => e = .returned (.bool true) ∧ Below w.heap.size w w')) ⟨#[.slice a0 j c0, x1, .slice a2 n2 c2, .int .u8 pm, .int .i64 pv, x5, x6, x7, x8, x9, x10, x11, x12, .slice (some ⟨R, 0, none⟩) j j, x14, .slice ac m cc, x16, x17, x18, x19, x20, x21, x22, x23, x24, x25, x26, x27, x28, x29, x30, x31, x32, x33, x34, x35, x36, x37, x38, x39, x40, x41, x42, x43, x44, x45, x46, x47, x48, x49, x50, x51, x52, x53, x54, x55, x56, x57, x58, x59, x60, x61, x62, x63, x64, x65, x66, x67, x68, x69, x70, x71, x72, x73, x74, x75, x76, x77, x78, x79, x80, x81, x82, x83, x84, x85, x86, x87, x88, x89, x90, x91, x92, x93, x94, x95, x96, x97, x98, x99, x100, x101, x102, x103, x104, x105, x106, x107, x108, x109, x110, x111, x112, x113, x114, x115, x116, x117, x118, x119, x120, x121, x122, x123, x124, x125, x126, x127, x128, x129, x130, x131, x132, x133, x134, x135, x136, x137, x138, x139, x140, x141, x142, x143, x144, x145, x146, x147, x148, x149, x150, x151, x152, x153, x154, x155, x156, x157, x158, x159, x160, x161, x162, x163, x164, x165, x166, x167, x168, x169, x170, x171, x172, x173, x174, x175, x176, x177, x178, x179, x180, x181, x182, x183, x184, x185, x186, x187, x188, x189, x190, x191, x192, x193, x194, x195, x196, x197, x198, x199, x200, x201, x202, x203, x204, x205, x206, x207, x208, x209, x210, x211, x212, x213, x214, x215, x216, x217, x218, x219, x220, x221, x222, x223, x224, x225, x226, x227, x228, x229, x230, x231, x232, x233, x234, x235, x236, x237, x238, x239, x240, x241, x242, x243, x244, x245, x246, x247, x248, x249, x250, x251, x252, x253, x254, x255, x256, x257, x258, x259, x260, x261, x262, x263, x264, x265, x266], []⟩ wc := by
  have hR2c := hR2.below hBc
  conv => arg 2; whnf
  go_wp2_with fail
  refine (clone_any wc a2 n2 c2 zs hR2c (by omega)).mono ?_
  rintro e wk ⟨vk, rfl, hOk, hnil, hbk⟩
  obtain ⟨ak, nk, ck, rfl, hRk, hak⟩ := hOk.row
  have hBk := hBc.trans (hbk.mono hBc.size)
  have hVk := hVc.below hbk
  have hCk := hCols.below hbk
  have hNil : Hid (ak.isNone = a2.isNone) := isNone_of hnil hRk.nil
  clear hnil hOk hak hVc hCols hbk hBc hR2c
  go_wp2_with fail
  refine (vclone_any wk R j j C hVk (by omega)).mono ?_
  rintro e w0 ⟨RC, rcc, rfl, hV2, hRC, hRC2, hb0⟩
  have hB0 := hBk.trans (hb0.mono hBk.size)
  have hR20 := hR2.below hB0
  have hG : Ground w0 R j ac m ks C a2 n2 c2 zs := ⟨hVk.below hb0, hCk.below hb0, hR20, hks, OK, hn0, hm, hn2⟩
  have hRk0 := hRk.below hb0
  have hKn : ∀ v, Below w0.heap.size w0 v → Known w w0 v a0 a2 ak ac j n2 c2 nk ck m C ks zs := fun v hv => ⟨hC, hG.cols, hR20, hRk0, hks, OK, hn0, hm, hn2, hB0, hv⟩
  have HKN : Hid _ := hKn
  clear hRC hRC2 hVk hCk hBk hRk hb0 hR20 hKn hRk0
  go_wp2_with fail
  refine (new_any _ _).mono ?_
  rintro e wE' ⟨rfl, rfl⟩
  have hbE := ((Below.refl w0.heap.size w0).alloc (Nat.le_refl _) (Obj.cells #[.string ⟨#[122, 122]⟩, .bool false, .pointer none, .slice ac m cc, .nilIface, .string ⟨#[]⟩, .nilIface, .pointer none, .pointer none] 44)).alloc (by simp) (Obj.cells #[.string ⟨#[122, 122]⟩] 62)
  have hIx : IxNew ((w0.alloc (Obj.cells #[.string ⟨#[122, 122]⟩, .bool false, .pointer none, .slice ac m cc, .nilIface, .string ⟨#[]⟩, .nilIface, .pointer none, .pointer none] 44)).alloc (Obj.cells #[.string ⟨#[122, 122]⟩] 62)) w0.heap.size ⟨#[122, 122]⟩ (.slice ac m cc) := ixNew_of w0 _ _ _
  go_upto_block 6 with fail
  obtain ⟨wE, hwE⟩ : ∃ wE, wE = ((w0.alloc (Obj.cells #[.string ⟨#[122, 122]⟩, .bool false, .pointer none, .slice ac m cc, .nilIface, .string ⟨#[]⟩, .nilIface, .pointer none, .pointer none] 44)).alloc (Obj.cells #[.string ⟨#[122, 122]⟩] 62)) := ⟨_, rfl⟩
  rw [← hwE] at hbE hIx ⊢
  clear hwE
  generalize hXX : w0.heap.size = X at hIx ⊢
  have HX : Hid (w0.heap.size = X) := hXX
  clear hXX
  obtain ⟨q, hqq⟩ : ∃ q, q = pm % 4 := ⟨_, rfl⟩
  rw [← hqq]
  have hq4 : q = 0 ∨ q = 1 ∨ q = 2 ∨ q = 3 := by omega
  clear hqq hpm0 hpm1
  go_cut [22] (fun v22 wx => ∃ pi, PredIs wx pv X (X + 1) q v22 pi ∧ Below wE.heap.size wE wx)
  case first =>
    have hszE := hIx.sz
    have hX1 : Hid (X < wE.heap.size ∧ X + 1 < wE.heap.size) := ⟨by omega, by omega⟩
    clear hszE
    rcases hq4 with rfl | rfl | rfl | rfl
    · go_wp2
      go_meet
      case rel => exact ⟨_, .m0, Below.refl _ _⟩
    · have hP := pred_alloc wE 0 0 0 ⟨#[]⟩ (.iface 60 (.pointer (some ⟨X + 1, 0, none⟩)))
      have hbP := (Below.refl wE.heap.size wE).alloc (Nat.le_refl _) (Obj.cells #[.int .u8 0, .int .i64 0, .float .f64 0, .string ⟨#[]⟩, .iface 60 (.pointer (some ⟨X + 1, 0, none⟩)), .int .i64 0, .int .i64 0] 50)
      have HP : Hid _ := hP
      clear hP
      go_wp2
      go_meet
      case rel => exact ⟨_, .m1 _ (by have := hX1.out; omega) (by have := hX1.out; omega) HP.out (by have := hX1.out; omega), hbP⟩
    · have hP := pred_alloc wE 0 0 0 ⟨#[]⟩ .nilIface
      have hbP := (Below.refl wE.heap.size wE).alloc (Nat.le_refl _) (Obj.cells #[.int .u8 0, .int .i64 0, .float .f64 0, .string ⟨#[]⟩, .nilIface, .int .i64 0, .int .i64 0] 50)
      have HP : Hid _ := hP
      clear hP
      go_wp2
      go_meet
      case rel => exact ⟨_, .m2 _ (by have := hX1.out; omega) HP.out (by have := hX1.out; omega), hbP⟩
    · go_wp2_with fail
      refine (int_any _ pv).mono ?_
      rintro e wI ⟨rfl, rfl⟩
      have hP := pred_alloc (wE.alloc (Obj.cells #[.int .u8 1, .int .i64 pv, .float .f64 0, .string ⟨#[]⟩] 30)) 1 pv 0 ⟨#[]⟩ .nilIface
      rw [show (wE.alloc (Obj.cells #[.int .u8 1, .int .i64 pv, .float .f64 0, .string ⟨#[]⟩] 30)).heap.size = wE.heap.size + 1 by simp] at hP
      have hbP := ((Below.refl wE.heap.size wE).alloc (Nat.le_refl _) (Obj.cells #[.int .u8 1, .int .i64 pv, .float .f64 0, .string ⟨#[]⟩] 30)).alloc (by simp) (Obj.cells #[.int .u8 1, .int .i64 pv, .float .f64 0, .string ⟨#[]⟩, .nilIface, .int .i64 0, .int .i64 0] 50)
      have HP : Hid _ := hP
      clear hP
      go_wp2
      go_meet
      case rel => exact ⟨_, .m3 _ (by have := hX1.out; omega) HP.out (by have := hX1.out; omega), hbP⟩
  case rest =>
    rename_i hgo
    obtain ⟨pi, hPI, hbx⟩ := hcut
    obtain ⟨po, rfl⟩ := hPI.ptr
    exact hgo _ _ (p2b F w w0 wE wc a0 a2 ak ac j c0 n2 c2 nk ck m cc R RC rcc X pv q po pi C ks zs hF HKN.out hG hV2 HX.out hNil.out hbE hIx hbx hPI)
end Go.Proofs.YbulkdngeFmt
