/-
  Seat b5711aF: the law's end: what was to be expected, and the flip.
-/
import Derived.Test.YbulkdngeFmtPSix
namespace Go.Proofs.YbulkdngeFmt
open Go.RowKit Go.Extern.Stop Go.Stop Go.Extern
set_option linter.unusedVariables false

set_option maxHeartbeats 8000000 in
set_option maxRecDepth 1000000 in
theorem p5 {x1 x3 x4 x5 x6 x7 x8 x9 x10 x11 x12 x13 x14 x16 x18 x19 x20 x21 x22 x24 x25 x26 x27 x28 x29 x30 x31 x32 x33 x34 x35 x36 x37 x38 x39 x40 x41 x42 x43 x44 x45 x46 x47 x48 x49 x50 x51 x52 x53 x54 x55 x56 x57 x58 x59 x60 x61 x62 x63 x64 x65 x66 x67 x68 x69 x70 x71 x72 x73 x74 x75 x76 x77 x78 x79 x80 x81 x82 x83 x84 x85 x86 x87 x88 x89 x90 x91 x92 x93 x94 x95 x96 x97 x98 x99 x100 x101 x102 x103 x104 x105 x106 x107 x108 x109 x110 x111 x112 x113 x114 x115 x116 x117 x118 x119 x120 x121 x122 x123 x124 x125 x126 x127 x128 x129 x130 x131 x132 x133 x134 x135 x136 x137 x138 x139 x140 x141 x142 x143 x144 x145 x146 x147 x148 x149 x150 x151 x152 x153 x154 x155 x156 x157 x158 x159 x160 x161 x162 x163 x164 x165 x166 x167 x168 x169 x170 x171 x172 x173 x174 x175 x176 x177 x178 x179 x180 x181 x182 x183 x184 x185 x186 x187 x188 x189 x190 x191 x192 x193 x194 x195 x196 x197 x198 x199 x200 x201 x202 x203 x204 x205 x206 x207 x208 x209 x210 x211 x212 x213 x214 x215 x216 x217 x218 x219 x220 x221 x222 x223 x224 x225 x226 x227 x228 x229 x230 x231 x232 x233 x234 x235 x236 x237 x238 x239 x240 x241 x242 x243 x244 x245 x246 x247 x248 x249 x250 x251 x252 x253 x254 x255 x256 x257 x258 x259 x260 x261 x262 x263 x264 x265 x266 : Value} (w w0 v : World) (a0 a2 ak ac : Option Addr) (n c0 n2 c2 nk ck m cc : Nat) (C : Nat → Cel) (ks : Nat → Nat) (zs : List Int) (got : Value) (hK : Known w w0 v a0 a2 ak ac n n2 c2 nk ck m C ks zs)
    (hgot : OB v w0.heap.size got (encs C ks m ++ zs)) (hg0 : encs C ks m ++ zs = [] → got = .slice none 0 0) :
    Code.wp Ybaf.prog ((Ybaf.f3.body.bind (tailFrom 52)).getD .skip) (bodyPost Ybaf.prog Ybaf.f3 (fun e w' => e = .returned (.bool true) ∧ Below w.heap.size w w')) ⟨#[.slice a0 n c0, x1, .slice a2 n2 c2, x3, x4, x5, x6, x7, x8, x9, x10, x11, x12, x13, x14, .slice ac m cc, x16, .slice ak nk ck, x18, x19, x20, x21, x22, got, x24, x25, x26, x27, x28, x29, x30, x31, x32, x33, x34, x35, x36, x37, x38, x39, x40, x41, x42, x43, x44, x45, x46, x47, x48, x49, x50, x51, x52, x53, x54, x55, x56, x57, x58, x59, x60, x61, x62, x63, x64, x65, x66, x67, x68, x69, x70, x71, x72, x73, x74, x75, x76, x77, x78, x79, x80, x81, x82, x83, x84, x85, x86, x87, x88, x89, x90, x91, x92, x93, x94, x95, x96, x97, x98, x99, x100, x101, x102, x103, x104, x105, x106, x107, x108, x109, x110, x111, x112, x113, x114, x115, x116, x117, x118, x119, x120, x121, x122, x123, x124, x125, x126, x127, x128, x129, x130, x131, x132, x133, x134, x135, x136, x137, x138, x139, x140, x141, x142, x143, x144, x145, x146, x147, x148, x149, x150, x151, x152, x153, x154, x155, x156, x157, x158, x159, x160, x161, x162, x163, x164, x165, x166, x167, x168, x169, x170, x171, x172, x173, x174, x175, x176, x177, x178, x179, x180, x181, x182, x183, x184, x185, x186, x187, x188, x189, x190, x191, x192, x193, x194, x195, x196, x197, x198, x199, x200, x201, x202, x203, x204, x205, x206, x207, x208, x209, x210, x211, x212, x213, x214, x215, x216, x217, x218, x219, x220, x221, x222, x223, x224, x225, x226, x227, x228, x229, x230, x231, x232, x233, x234, x235, x236, x237, x238, x239, x240, x241, x242, x243, x244, x245, x246, x247, x248, x249, x250, x251, x252, x253, x254, x255, x256, x257, x258, x259, x260, x261, x262, x263, x264, x265, x266], []⟩ v := by
  have q23 := eq23
  conv => arg 2; whnf
  go_wp2
  go_loopw [26, 27] (fun v26 v27 wr => ∃ k : Nat, k ≤ m ∧ v27 = .int .i64 (k : Int) ∧ OB wr v.heap.size v26 (encs C ks k) ∧ Below v.heap.size v wr ∧ (k = 0 → v26 = .slice none 0 0)) (fun _ v27 _ => m - (intOf v27).toNat)
  case atStart => exact ⟨0, Nat.zero_le _, rfl, OB.nil _ _ (Nat.le_refl _), Below.refl _ _, fun _ => rfl⟩
  case round =>
    obtain ⟨k, hk, rfl, hO, hB, hnil⟩ := hrel
    have hle := encs_len C ks n hK.ok k (fun j hj => hK.hks j (by omega))
    have hm := hK.hm
    have hKr := hK.next (hB.mono hK.b1.size)
    have HN : Hid _ := hnil
    clear hnil
    rcases Nat.lt_or_ge k m with hlt | hge
    · obtain ⟨b, rfl, hc⟩ := (hK.cols.below hKr.b1).spot (by omega)
      have hck := hc k hlt
      have hkn := hK.hks k hlt
      have hkni : ((ks k : Nat) : Int) < (n : Int) := by omega
      have hki : (k : Int) < (m : Int) := by omega
      obtain ⟨b2, off, rfl, hd⟩ := (hK.cells.below hKr.all).spot (by omega)
      obtain ⟨d0, d1, d2, d3⟩ := hd _ hkn
      have OK := hK.ok _ hkn
      clear hc hd
      go_wp2_with fail
      refine (enc_any wr v.heap.size _ (encs C ks k) (C (ks k)) OK hO (by omega)).mono ?_
      rintro e w2 ⟨v', rfl, hO2, hG2⟩
      have hB2 := hB.trans (hO.grew_below hG2)
      clear hck d0 d1 d2 d3 hG2
      go_wp2
      exact ⟨⟨k + 1, hlt, by simp, hO2, hB2, fun h => by omega⟩, by simp [intOf]; omega⟩
    · obtain rfl : k = m := by omega
      obtain ⟨i0, hi, hz0, hz1, hz2⟩ := info_parts Ybaf.info5
      have hcopy := hKr.copy.below hKr.b1
      have hz := hK.hz
      have hlz : zs.length = n2 := hK.key.len
      have hfin : ∀ (v5 : Value) (w5 : World), OB w5 v.heap.size v5 (encs C ks k ++ zs) → Below v.heap.size v w5 → Fin5 w w0 w5 a0 a2 ak ac n n2 c2 nk ck k C ks zs got v5 := fun v5 w5 h5 hb5 => ⟨hK.next (hb5.mono hK.b1.size), hgot.below hb5, hg0, h5.base hK.b1.size⟩
      have HF5 : Hid _ := hfin
      clear hfin
      go_upto_region 57 with fail
      go_cut [26] (fun v26 wx => Fin5 w w0 wx a0 a2 ak ac n n2 c2 nk ck k C ks zs got v26)
      case first =>
        cases ak with
        | none =>
          obtain ⟨rfl, rfl⟩ := hcopy.nil rfl
          have hzs : zs = [] := List.eq_nil_of_length_eq_zero hcopy.len
          have HZ : Hid _ := hzs
          clear hcopy hzs
          go_wp2_with (at_builtin; refine wpList_append_own_none rfl _ _ 23 rfl v.heap.size 5 i0 1 Ybaf.underlying23 hi _ _ _ rfl hO.own rfl ?_)
          go_wp2
          go_meet
          case rel => exact HF5.out _ _ (by rw [HZ.out, List.append_nil]; exact hO) hB
        | some a =>
          have hx := hcopy.len
          have A : Hid (∀ i, i < nk → wr.cell? (a.add i) = some (.int .u8 (zs.getD i 0))) := by
            intro i hin
            obtain ⟨b, off, e, hc⟩ := hcopy.spot (by omega)
            obtain rfl := Option.some.inj e
            rw [Addr.add_lit]
            exact hc i hin
          clear hcopy
          go_wp2_with (at_builtin; refine wpList_append_own _ rfl _ _ 23 rfl v.heap.size 5 i0 (.int .u8 0) 1 1 Ybaf.underlying23 hi hz0 hz1 hz2 rfl (by decide) _ _ _ rfl hO.own a nk ck (cellsB zs) rfl ?qc1 ?qc2 ?qc3 ?qc4 ?qc5 ?qc6 ?_)
          case qc1 => simp [cellsB]; omega
          case qc2 =>
            intro j u hj
            have hjn : j < nk := by
              have := (List.getElem?_eq_some_iff.1 hj).1
              simp [cellsB] at this
              omega
            rw [A.out j hjn]
            have e : (cellsB zs)[j]? = some (Value.int .u8 (zs.getD j 0)) := by simp [cellsB, List.getD, List.getElem?_eq_getElem (show j < zs.length by omega)]
            rw [e] at hj
            exact hj
          case qc3 => intro u hu; obtain ⟨x, _, rfl⟩ := List.mem_map.1 hu; rfl
          case qc4 => unfold maxLen; omega
          case qc5 => omega
          case qc6 => exact hO.bs
          intro v5 w5 hown hgrow hnil
          have hB2 := hB.grown hgrow hO.bs (fun k hk => (hO.ge hk).1)
          have OW : Hid (OB w5 v.heap.size v5 (encs C ks k ++ zs)) := by
            refine ⟨?_, hB2.size⟩
            rw [cellsB_append, List.length_append, hx]
            exact hown
          clear hown hgrow hnil
          go_wp2
          go_meet
          case rel => exact HF5.out _ _ OW.out hB2
      case rest =>
        rename_i hgo
        clear HF5 hcopy hKr hO hB HN hle hz hlz
        obtain ⟨ag, ng, cg, rfl, hrg, _⟩ := hcut.got.row
        obtain ⟨ae, ne, ce, rfl, hre, _⟩ := hcut.exp.row
        exact hgo _ _ (p6 w w0 wc a0 a2 ak ac ag ae n n2 c2 nk ck ng cg ne ce k C ks zs hcut hrg hre)
end Go.Proofs.YbulkdngeFmt
