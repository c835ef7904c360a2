/-
  Seat b5711aF: the law's end: the answer, and the flip.
-/
import Derived.Test.YbulkdngeFmtTail
namespace Go.Proofs.YbulkdngeFmt
open Go.RowKit Go.Extern.Stop Go.Stop Go.Extern
set_option linter.unusedVariables false

/-- What the end of the law knows: w as the call began, w0 before the index was made, v now. -/
structure Known (w w0 v : World) (a0 a2 ak ac : Option Addr) (n n2 c2 nk ck m : Nat) (C : Nat → Cel) (ks : Nat → Nat) (zs : List Int) : Prop where
  cells : Cells w a0 n C
  cols : Cols w0 ac m ks
  key : Row w0 a2 n2 c2 zs
  copy : Row w0 ak nk ck zs
  hks : ∀ j, j < m → ks j < n
  ok : ∀ j, j < n → (C j).Ok
  hn : n ≤ 65536
  hm : m ≤ 65536
  hz : n2 ≤ 1048576
  b0 : Below w.heap.size w w0
  b1 : Below w0.heap.size w0 v
theorem Known.next {w w0 v v' : World} {a0 a2 ak ac : Option Addr} {n n2 c2 nk ck m : Nat} {C : Nat → Cel} {ks : Nat → Nat} {zs : List Int} (h : Known w w0 v a0 a2 ak ac n n2 c2 nk ck m C ks zs) (hb : Below w0.heap.size v v') : Known w w0 v' a0 a2 ak ac n n2 c2 nk ck m C ks zs :=
  { h with b1 := h.b1.trans hb }
theorem Known.all {w w0 v : World} {a0 a2 ak ac : Option Addr} {n n2 c2 nk ck m : Nat} {C : Nat → Cel} {ks : Nat → Nat} {zs : List Int} (h : Known w w0 v a0 a2 ak ac n n2 c2 nk ck m C ks zs) : Below w.heap.size w v := h.b0.trans (h.b1.mono h.b0.size)

/-- Behind the last append. -/
structure Fin5 (w w0 v : World) (a0 a2 ak ac : Option Addr) (n n2 c2 nk ck m : Nat) (C : Nat → Cel) (ks : Nat → Nat) (zs : List Int) (vg ve : Value) : Prop where
  k : Known w w0 v a0 a2 ak ac n n2 c2 nk ck m C ks zs
  got : OB v w0.heap.size vg (encs C ks m ++ zs)
  got0 : encs C ks m ++ zs = [] → vg = Value.slice Option.none 0 0
  exp : OB v w0.heap.size ve (encs C ks m ++ zs)


/-- A byte slice's block, as far as the flip reads and writes it. -/
theorem OB.block {w : World} {B : Nat} {bs : List Int} {ag : Option Addr} {ng cg : Nat} (h : OB w B (.slice ag ng cg) bs) (hp : 0 < ng) : ∃ (g cap : Nat) (f : Nat → Value), ag = some ⟨g, 0, none⟩ ∧ B ≤ g ∧ ng ≤ cap ∧ w.rowIs g 5 cap f ∧ ∀ i, i < ng → ∃ y, f i = .int .u8 y := by
  rcases h.own.2 with ⟨e, h0⟩ | ⟨g, cap, cur, e, hB, hg, hn, hc, hs, ht⟩
  · simp at e; omega
  · simp only [Value.slice.injEq] at e
    obtain ⟨rfl, rfl, rfl⟩ := e
    refine ⟨g, cg, fun i => (cur[i]?).getD default, rfl, hB, hn, ⟨cur, hg, by omega, fun i hi => ?_⟩, fun i hi => ?_⟩
    · have : i < cur.size := by omega
      simp [this]
    · have h2 : (cur.toList.take (bs.length * 1))[i]? = (cellsB bs)[i]? := by rw [ht]
      rw [List.getElem?_take] at h2
      simp [cellsB, hi] at h2
      exact ⟨bs[i], by simp [h2]⟩

set_option maxHeartbeats 8000000 in
set_option maxRecDepth 1000000 in
theorem p6 {x0 x1 x3 x4 x5 x6 x7 x8 x9 x10 x11 x12 x13 x14 x15 x16 x18 x19 x20 x21 x22 x24 x25 x27 x28 x29 x30 x31 x32 x33 x34 x35 x36 x37 x38 x39 x40 x41 x42 x43 x44 x45 x46 x47 x48 x49 x50 x51 x52 x53 x54 x55 x56 x57 x58 x59 x60 x61 x62 x63 x64 x65 x66 x67 x68 x69 x70 x71 x72 x73 x74 x75 x76 x77 x78 x79 x80 x81 x82 x83 x84 x85 x86 x87 x88 x89 x90 x91 x92 x93 x94 x95 x96 x97 x98 x99 x100 x101 x102 x103 x104 x105 x106 x107 x108 x109 x110 x111 x112 x113 x114 x115 x116 x117 x118 x119 x120 x121 x122 x123 x124 x125 x126 x127 x128 x129 x130 x131 x132 x133 x134 x135 x136 x137 x138 x139 x140 x141 x142 x143 x144 x145 x146 x147 x148 x149 x150 x151 x152 x153 x154 x155 x156 x157 x158 x159 x160 x161 x162 x163 x164 x165 x166 x167 x168 x169 x170 x171 x172 x173 x174 x175 x176 x177 x178 x179 x180 x181 x182 x183 x184 x185 x186 x187 x188 x189 x190 x191 x192 x193 x194 x195 x196 x197 x198 x199 x200 x201 x202 x203 x204 x205 x206 x207 x208 x209 x210 x211 x212 x213 x214 x215 x216 x217 x218 x219 x220 x221 x222 x223 x224 x225 x226 x227 x228 x229 x230 x231 x232 x233 x234 x235 x236 x237 x238 x239 x240 x241 x242 x243 x244 x245 x246 x247 x248 x249 x250 x251 x252 x253 x254 x255 x256 x257 x258 x259 x260 x261 x262 x263 x264 x265 x266 : Value} (w w0 v : World) (a0 a2 ak ac ag ae : Option Addr) (n n2 c2 nk ck ng cg ne ce m : Nat) (C : Nat → Cel) (ks : Nat → Nat) (zs : List Int) (h5 : Fin5 w w0 v a0 a2 ak ac n n2 c2 nk ck m C ks zs (.slice ag ng cg) (.slice ae ne ce)) (hg : Row v ag ng cg (encs C ks m ++ zs)) (he : Row v ae ne ce (encs C ks m ++ zs)) :
    Code.wp Ybaf.prog ((Ybaf.f3.body.bind (tailFrom 58)).getD .skip) (bodyPost Ybaf.prog Ybaf.f3 (fun e w' => e = .returned (.bool true) ∧ Below w.heap.size w w')) ⟨#[x0, x1, .slice a2 n2 c2, x3, x4, x5, x6, x7, x8, x9, x10, x11, x12, x13, x14, x15, x16, .slice ak nk ck, x18, x19, x20, x21, x22, .slice ag ng cg, x24, x25, .slice ae ne ce, x27, x28, x29, x30, x31, x32, x33, x34, x35, x36, x37, x38, x39, x40, x41, x42, x43, x44, x45, x46, x47, x48, x49, x50, x51, x52, x53, x54, x55, x56, x57, x58, x59, x60, x61, x62, x63, x64, x65, x66, x67, x68, x69, x70, x71, x72, x73, x74, x75, x76, x77, x78, x79, x80, x81, x82, x83, x84, x85, x86, x87, x88, x89, x90, x91, x92, x93, x94, x95, x96, x97, x98, x99, x100, x101, x102, x103, x104, x105, x106, x107, x108, x109, x110, x111, x112, x113, x114, x115, x116, x117, x118, x119, x120, x121, x122, x123, x124, x125, x126, x127, x128, x129, x130, x131, x132, x133, x134, x135, x136, x137, x138, x139, x140, x141, x142, x143, x144, x145, x146, x147, x148, x149, x150, x151, x152, x153, x154, x155, x156, x157, x158, x159, x160, x161, x162, x163, x164, x165, x166, x167, x168, x169, x170, x171, x172, x173, x174, x175, x176, x177, x178, x179, x180, x181, x182, x183, x184, x185, x186, x187, x188, x189, x190, x191, x192, x193, x194, x195, x196, x197, x198, x199, x200, x201, x202, x203, x204, x205, x206, x207, x208, x209, x210, x211, x212, x213, x214, x215, x216, x217, x218, x219, x220, x221, x222, x223, x224, x225, x226, x227, x228, x229, x230, x231, x232, x233, x234, x235, x236, x237, x238, x239, x240, x241, x242, x243, x244, x245, x246, x247, x248, x249, x250, x251, x252, x253, x254, x255, x256, x257, x258, x259, x260, x261, x262, x263, x264, x265, x266], []⟩ v := by
  have q23 := eq23
  have hgl := hg.len
  have hel := he.len
  have hnn : ng = ne := by omega
  have hBw := h5.k.all
  have hng : ng ≤ 140737488355328 := by
    have h1 := encs_len C ks n h5.k.ok m h5.k.hks
    have h2 := h5.k.key.len
    have h3 := h5.k.hz
    have h4 := h5.k.hm
    rw [List.length_append] at hgl
    omega
  by_cases hz : ne = 0
  · have hbs : encs C ks m ++ zs = [] := List.eq_nil_of_length_eq_zero (by omega)
    have e := h5.got0 hbs
    simp only [Value.slice.injEq] at e
    obtain ⟨rfl, rfl, rfl⟩ := e
    subst hz
    clear h5 hg he hgl hel hnn hbs
    conv => arg 2; whnf
    go_wp2
    exact bodyPost_ret (v := .bool true) (by simp [results, Ybaf.results3]) rfl ⟨rfl, hBw⟩
  · have hzi : ((ne : Int) == 0) = false := by simp [hz]
    obtain ⟨g, cap, f, rfl, hB, hc, hrow, hf⟩ := h5.got.block (by omega)
    have K := h5.k
    have hHn := hnn
    have H0 : Hid (0 < ng ∧ ng = ne) := ⟨by omega, hnn⟩
    clear h5 hgl hel hnn hHn
    conv => arg 2; whnf
    go_wp2_with fail
    refine (equal_same v _ _ _ _ _ _ _ hg he).mono ?_
    rintro e w' ⟨rfl, rfl⟩
    clear hg he hzi hz
    go_wp2
    go_loopw [28] (fun v28 wr => ∃ (k : Nat) (f : Nat → Value), k ≤ ng ∧ v28 = .int .i64 (k : Int) ∧ wr.rowIs g 5 cap f ∧ Hid (∀ i, i < ng → ∃ y, f i = .int .u8 y) ∧ Known w w0 wr a0 a2 ak ac n n2 c2 nk ck m C ks zs) (fun v28 _ => ng - (intOf v28).toNat)
    case atStart => exact ⟨0, f, Nat.zero_le _, rfl, hrow, hf, K⟩
    case round =>
      obtain ⟨k, f, hk, rfl, hrow, hf, hK⟩ := hrel
      rcases Nat.lt_or_ge k ng with hlt | hge
      · have hki : (k : Int) < (ng : Int) := by omega
        obtain ⟨y, hy⟩ := hf.out k hlt
        have c1 : wr.cell? ⟨g, k, none⟩ = some (.int .u8 y) := by rw [← hy]; exact hrow.cell (by omega)
        have f1 : wr.frozen? ⟨g, k, none⟩ = false := hrow.frozen _
        have hR2 : Hid (∀ x, (wr.setCell ⟨g, k, none⟩ (.int .u8 x)).rowIs g 5 cap (fun i => if i = k then .int .u8 x else f i)) := fun x => hrow.set k _
        have hb2 : Hid (∀ x, Known w w0 (wr.setCell ⟨g, k, none⟩ (.int .u8 x)) a0 a2 ak ac n n2 c2 nk ck m C ks zs) := fun x => hK.next ((Below.refl _ _).setCell hB _)
        clear hy hrow hK
        go_wp2
        refine ⟨⟨k + 1, _, hlt, by simp, hR2.out _, fun i hi => ?_, hb2.out _⟩, by simp [intOf]; omega⟩
        by_cases e : i = k
        · exact ⟨_, if_pos e⟩
        · obtain ⟨y2, hy2⟩ := hf.out i hi
          exact ⟨y2, (if_neg e).trans hy2⟩
      · obtain rfl : k = ng := by omega
        have r1 := hK.key.below hK.b1
        have r2 := hK.copy.below hK.b1
        have hBr := hK.all
        clear hK hrow hf
        go_wp2_with fail
        refine (equal_same wr _ _ _ _ _ _ _ r1 r2).mono ?_
        rintro e w' ⟨rfl, rfl⟩
        go_wp2
        exact bodyPost_ret (v := .bool true) (by simp [results, Ybaf.results3]) rfl ⟨rfl, hBr⟩
end Go.Proofs.YbulkdngeFmt
