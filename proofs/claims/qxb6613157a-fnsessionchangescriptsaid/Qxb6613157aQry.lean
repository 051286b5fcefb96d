import Derived.Test.Qxb6613157aInn
namespace Go.Proofs.Qxb6613157a
open Go.RowKit Go.WideMaps

set_option maxRecDepth 100000 in
set_option maxHeartbeats 40000000 in
theorem queries (x3 x4 x5 x6 x7 x8 x9 x12 x13 x14 x16 x18 x20 x21 x22 x23 x24 x25 x26 x27 x28 x29 x30 x31 x32 x33 x34 x35 x36 x37 x38 x39 x40 x41 x42 x43 x44 x45 x46 x47 x48 x49 x50 x51 x52 x53 x54 x55 x56 x57 x58 x59 x60 x61 x62 x63 x64 x65 x66 x67 x68 x69 x70 x71 x72 x73 x74 x75 x76 x77 x78 x79 x80 x81 x82 x83 x84 x85 x86 x87 x88 x89 x90 x91 x92 x93 x94 x95 x96 x97 x98 x99 x100 x101 x102 x103 x104 x105 x106 x107 x108 x109 x110 x111 x112 x113 x114 x115 x116 x117 x118 x119 x120 x121 x122 x123 x124 x125 x126 x127 x128 x129 x130 x131 x132 x133 x134 x135 x136 x137 x138 x139 x140 x141 x142 x143 x144 x145 x146 x147 x148 x149 x150 x151 x152 x153 x154 x155 x156 x157 x158 x159 x160 x161 x162 x163 x164 x165 x166 x167 x168 x169 x170 x171 x172 x173 x174 x175 x176 x177 x178 x179 x180 x181 x182 x183 x184 x185 x186 x187 x188 x189 x190 x191 x192 x193 x194 x195 x196 x197 x198 x199 x200 x201 x202 x203 x204 x205 x206 x207 x208 x209 x210 x211 x212 x213 x214 x215 x216 x217 x218 x219 x220 x221 x222 x223 x224 x225 x226 x227 x228 x229 x230 x231 x232 x233 x234 x235 x236 x237 x238 x239 x240 x241 x242 x243 x244 x245 x246 x247 x248 x249 x250 x251 x252 x253 x254 x255 x256 x257 x258 x259 x260 x261 x262 x263 x264 x265 x266 x267 x268 x269 x270 x271 x272 x273 x274 x275 x276 x277 x278 x279 x280 x281 x282 x283 x284 x285 x286 x287 x288 x289 x290 x291 x292 x293 x294 x295 x296 x297 x298 x299 x300 x301 x302 x303 x304 x305 x306 x307 x308 x309 x310 x311 x312 x313 x314 x315 x316 x317 x318 x319 x320 x321 x322 x323 x324 x325 x326 x327 x328 x329 x330 x331 x332 : Value) (n n' c c' T M L P Lb : Nat) (a a' : Option Addr) (ks qs : Nat → Key3) (sh : Bool) (ov bv : Value) (E0 : Nat → Nat) (R0 : Nat → Int) (w w0 : World) (hn : n ≤ 4096) (hn' : n' ≤ 4096) (h : RawK w a n ks) (h' : RawK w a' n' qs) (hok' : ∀ i, i < n' → (qs i).ok)
    (hI : Inv6 w w0 T M L P Lb sh ks n ov bv E0 0 E0 R0 (fun _ => -1)) (K : Act → World → Prop) (Q : Exit → Act → World → Prop)
    (hrest : ∀ (y6 y19 y20 y21 y22 y23 y24 y25 y26 y27 y28 y181 y182 y183 y184 y185 y186 y187 y188 y189 y190 y191 y192 y193 y194 y195 y196 y197 y198 y199 y200 y201 y202 y203 y204 y205 y206 y207 y208 y209 y210 y211 y212 y213 y214 y215 y216 y217 y218 y219 y220 y221 y222 y223 y224 y225 y226 y227 y228 y229 y230 y231 y232 y233 y234 y235 y236 y237 y238 y239 : Value) (wd : World), (∃ E R lf, Inv6 w wd T M L P Lb sh ks n ov bv E0 n' E R lf) → K ⟨#[.slice a n c, .slice a' n' c', .bool sh, x3, x4, x5, y6, x7, x8, x9, ptr T, .slice (some ⟨P, 0, none⟩) n n, x12, x13, x14, ov, x16, .slice (some ⟨Lb, 0, none⟩) (dist ks n).length (dist ks n).length, x18, y19, y20, y21, y22, y23, y24, y25, y26, y27, y28, x29, x30, x31, x32, x33, x34, x35, x36, x37, x38, x39, x40, x41, x42, x43, x44, x45, x46, x47, x48, x49, x50, x51, x52, x53, x54, x55, x56, x57, x58, x59, x60, x61, x62, x63, x64, x65, x66, x67, x68, x69, x70, x71, x72, x73, x74, x75, x76, x77, x78, x79, x80, x81, x82, x83, x84, x85, x86, x87, x88, x89, x90, x91, x92, x93, x94, x95, x96, x97, x98, x99, x100, x101, x102, x103, x104, x105, x106, x107, x108, x109, x110, x111, x112, x113, x114, x115, x116, x117, x118, x119, x120, x121, x122, x123, x124, x125, x126, x127, x128, x129, x130, x131, x132, x133, x134, x135, x136, x137, x138, x139, x140, x141, x142, x143, x144, x145, x146, x147, x148, x149, x150, x151, x152, x153, x154, x155, x156, x157, x158, x159, x160, x161, x162, x163, x164, x165, x166, x167, x168, x169, x170, x171, x172, x173, x174, x175, x176, x177, x178, x179, x180, y181, y182, y183, y184, y185, y186, y187, y188, y189, y190, y191, y192, y193, y194, y195, y196, y197, y198, y199, y200, y201, y202, y203, y204, y205, y206, y207, y208, y209, y210, y211, y212, y213, y214, y215, y216, y217, y218, y219, y220, y221, y222, y223, y224, y225, y226, y227, y228, y229, y230, y231, y232, y233, y234, y235, y236, y237, y238, y239, x240, x241, x242, x243, x244, x245, x246, x247, x248, x249, x250, x251, x252, x253, x254, x255, x256, x257, x258, x259, x260, x261, x262, x263, x264, x265, x266, x267, x268, x269, x270, x271, x272, x273, x274, x275, x276, x277, x278, x279, x280, x281, x282, x283, x284, x285, x286, x287, x288, x289, x290, x291, x292, x293, x294, x295, x296, x297, x298, x299, x300, x301, x302, x303, x304, x305, x306, x307, x308, x309, x310, x311, x312, x313, x314, x315, x316, x317, x318, x319, x320, x321, x322, x323, x324, x325, x326, x327, x328, x329, x330, x331, x332], []⟩ wd) (cc : Code) (hc : Try.f3.body.bind (blockOf 8) = some cc) :
    Code.wp Try.prog (.block 8 cc) (Exit.then K Q) ⟨#[.slice a n c, .slice a' n' c', .bool sh, x3, x4, x5, x6, x7, x8, x9, ptr T, .slice (some ⟨P, 0, none⟩) n n, x12, x13, x14, ov, x16, .slice (some ⟨Lb, 0, none⟩) (dist ks n).length (dist ks n).length, x18, .int .i64 0, x20, x21, x22, x23, x24, x25, x26, x27, x28, x29, x30, x31, x32, x33, x34, x35, x36, x37, x38, x39, x40, x41, x42, x43, x44, x45, x46, x47, x48, x49, x50, x51, x52, x53, x54, x55, x56, x57, x58, x59, x60, x61, x62, x63, x64, x65, x66, x67, x68, x69, x70, x71, x72, x73, x74, x75, x76, x77, x78, x79, x80, x81, x82, x83, x84, x85, x86, x87, x88, x89, x90, x91, x92, x93, x94, x95, x96, x97, x98, x99, x100, x101, x102, x103, x104, x105, x106, x107, x108, x109, x110, x111, x112, x113, x114, x115, x116, x117, x118, x119, x120, x121, x122, x123, x124, x125, x126, x127, x128, x129, x130, x131, x132, x133, x134, x135, x136, x137, x138, x139, x140, x141, x142, x143, x144, x145, x146, x147, x148, x149, x150, x151, x152, x153, x154, x155, x156, x157, x158, x159, x160, x161, x162, x163, x164, x165, x166, x167, x168, x169, x170, x171, x172, x173, x174, x175, x176, x177, x178, x179, x180, x181, x182, x183, x184, x185, x186, x187, x188, x189, x190, x191, x192, x193, x194, x195, x196, x197, x198, x199, x200, x201, x202, x203, x204, x205, x206, x207, x208, x209, x210, x211, x212, x213, x214, x215, x216, x217, x218, x219, x220, x221, x222, x223, x224, x225, x226, x227, x228, x229, x230, x231, x232, x233, x234, x235, x236, x237, x238, x239, x240, x241, x242, x243, x244, x245, x246, x247, x248, x249, x250, x251, x252, x253, x254, x255, x256, x257, x258, x259, x260, x261, x262, x263, x264, x265, x266, x267, x268, x269, x270, x271, x272, x273, x274, x275, x276, x277, x278, x279, x280, x281, x282, x283, x284, x285, x286, x287, x288, x289, x290, x291, x292, x293, x294, x295, x296, x297, x298, x299, x300, x301, x302, x303, x304, x305, x306, x307, x308, x309, x310, x311, x312, x313, x314, x315, x316, x317, x318, x319, x320, x321, x322, x323, x324, x325, x326, x327, x328, x329, x330, x331, x332], []⟩ w0 := by
  have hc2 : Try.f3.body.bind (blockOf 8) = some _ := rfl
  obtain rfl := Option.some.inj (hc.symm.trans hc2)
  clear hc hc2
  have H := hide h
  have H' := hide h'
  have HOK' := hide hok'
  have I := hide hI
  have HREST := hide hrest
  clear h h' hok' hI hrest
  go_wp2_with fail
  go_loopg [19] n' (fun g i wr => ∃ (j : Nat) (E : Nat → Nat) (R lf : Nat → Int), j ≤ n' ∧ g = n' - j ∧ i = .int .i64 j ∧ Inv6 w wr T M L P Lb sh ks n ov bv E0 j E R lf)
  case atStart => exact ⟨0, _, _, _, Nat.zero_le _, rfl, rfl, I.out⟩
  case round =>
    clear I
    obtain ⟨j, E, R, lf, hj, rfl, rfl, hI⟩ := hrel
    have I := hide hI
    clear hI
    by_cases hlt : j < n'
    · obtain ⟨b, o, rfl, x1, x2, x3⟩ := H'.out j hlt
      have hbl : b < w.heap.size := World.block_lt_of_cell? _ _ x1
      have y1 : wr.cell? ⟨b, o + j * 3, none⟩ = some (.string (qs j).1) := (I.out.bel.cell hbl).trans x1
      have y2 : wr.cell? ⟨b, o + j * 3 + 1, none⟩ = some (.string (qs j).2.1) := (I.out.bel.cell hbl).trans x2
      have y3 : wr.cell? ⟨b, o + j * 3 + 2, none⟩ = some (.string (qs j).2.2) := (I.out.bel.cell hbl).trans x3
      clear x1 x2 x3 H'
      go_upto_block 10 with fail
      have IQ := hide (I.out.kp ((Fr.refl _ wr).alloc (.cells #[.string (qs j).1, .string (qs j).2.1, .string (qs j).2.2] 25)))
      have hq : (wr.alloc (.cells #[.string (qs j).1, .string (qs j).2.1, .string (qs j).2.2] 25)).heap[wr.heap.size]? = some (.cells #[.string (qs j).1, .string (qs j).2.1, .string (qs j).2.2] 25 (0, 0)) := heap_alloc_new _ _
      generalize wr.alloc (.cells #[.string (qs j).1, .string (qs j).2.1, .string (qs j).2.2] 25) = wq at IQ hq ⊢
      generalize wr.heap.size = Bq at hq ⊢
      have HQ := hide hq
      clear I y1 y2 y3 hq
      refine inner _ _ _ _ _ _ _ _ _ _ _ _ _ _ _ _ _ _ _ _ _ _ _ _ _ _ _ _ _ _ _ _ _ _ _ _ _ _ _ _ _ _ _ _ _ _ _ _ _ _ _ _ _ _ _ _ _ _ _ _ _ _ _ _ _ _ _ _ _ _ _ _ _ _ _ _ _ _ _ _ _ _ _ _ _ _ _ _ _ _ _ _ _ _ _ _ _ _ _ _ _ _ _ _ _ _ _ _ _ _ _ _ _ _ _ _ _ _ _ _ _ _ _ _ _ _ _ _ _ _ _ _ _ _ _ _ _ _ _ _ _ _ _ _ _ _ _ _ _ _ _ _ _ _ _ _ _ _ _ _ _ _ _ _ _ _ _ _ _ _ _ _ _ _ _ _ _ _ _ _ _ _ _ _ _ _ _ _ _ _ _ _ _ _ _ _ _ _ _ _ _ _ _ _ _ _ _ _ _ _ _ _ _ _ _ _ _ _ _ _ _ _ _ _ _ _ _ _ _ _ _ _ _ _ _ _ _ _ _ _ _ _ _ _ _ _ _ _ _ _ _ _ _ _ _ _ _ _ _ _ _ _ _ _ _ _ _ _ _ _ _ _ _ _ _ _ _ _ _ _ _ _ _ _ _ _ _ _ _ _ _ _ _ _ _ _ _ _ _ _ _ _ _ _ _ _ _ _ _ _ _ _ _ _ _ _ _ _ _ _ _ _ _ _ _ _ _ _ n c P Bq a ks (qs j) w wq hn H.out IQ.out.bel IQ.out.pos HQ.out _ _ ?_ _ rfl
      intro u22 u191 u192 u193 u194 u195 u196 u197 u198 u199 u200 u201 u202 u203 u204 u205 u206 z wc hkp hx
      have I := hide (IQ.out.kp hkp)
      have hq := hkp.at HQ.out id
      have z1 : wc.cell? ⟨Bq, 0, none⟩ = some (.string (qs j).1) := cell_of_heap hq rfl
      have z2 : wc.cell? ⟨Bq, 1, none⟩ = some (.string (qs j).2.1) := cell_of_heap hq rfl
      have z3 : wc.cell? ⟨Bq, 2, none⟩ = some (.string (qs j).2.2) := cell_of_heap hq rfl
      clear hkp hq IQ HQ H
      rcases posQ_cases (dist ks n) (qs j) with ⟨hnm, hpq⟩ | ⟨p, hp, hpl, hpq⟩
      · obtain rfl : z = -1 := hx.trans hpq
        clear hpq hx
        go_wp2_with fail
        refine (zchange_of (change_no I.out.tab (qs j) (HOK'.out j hlt) hnm) (by rintro e w' ⟨rfl, _⟩; exact ⟨_, rfl⟩)).mono ?_
        rintro e w8 ⟨rfl, hk8⟩
        have I8 := hide (I.out.kp hk8).next
        clear hk8 I z1 z2 z3 hnm
        go_wp2
        go_roundg (n' - (j + 1))
        case measure => go_light; omega
        case rel => exact ⟨j + 1, E, R, lf, by omega, rfl, by go_num, I8.out⟩
      · obtain rfl : z = (p : Int) := hx.trans hpq
        clear hpq hx
        have HP := hide hp
        have hle := dist_length ks n
        clear hp
        cases sh with
        | false =>
          go_wp2_with fail
          refine (zchange_of (change_same I.out.tab (qs j) p HP.out) (by rintro e w' ⟨rfl, _⟩; exact ⟨_, rfl⟩)).mono ?_
          rintro e w8 ⟨rfl, hk8⟩
          have K8 := hide hk8
          clear hk8 z1 z2 z3
          go_wp2_with fail
          refine (view_any (E p) p (qs j) (R p) w8 ((I.out.tab.kp K8.out).ent p _ HP.out)).mono ?_
          rintro e w9 ⟨rfl, hk9⟩
          have K9 := hide hk9
          clear hk9
          go_wp2_with fail
          refine (setReports_any (E p) p (qs j) (R p) (1000000 + (j : Int)) w9 (((I.out.tab.kp K8.out).kp K9.out).ent p _ HP.out)).mono ?_
          rintro e w10 ⟨rfl, hh, hf⟩
          obtain ⟨hr, hI2⟩ := I.out.hit_same HP.out K8.out K9.out hh hf
          have I2 := hide hI2
          have r1 : w10.cell? ⟨Lb, p, none⟩ = some (.int .i64 (lf p)) := hr.cell hpl
          have r2 : w10.frozen? ⟨Lb, p, none⟩ = false := hr.frozen p
          clear hh hf hr hI2 I K8 K9
          go_wp2
          go_roundg (n' - (j + 1))
          case measure => go_light; omega
          case rel => exact ⟨j + 1, _, _, _, by omega, rfl, by go_num, I2.out⟩
        | true =>
          rcases I.out.tab.ord.2 with ⟨_, h0⟩ | ⟨g, cap, cur, rfl, hg0, hg1, hg2, hg3, hg4, hg5⟩
          · omega
          clear hg0 hg1 hg2 hg3 hg4 hg5
          go_wp2_with fail
          refine (zchange_of (change_copy I.out.tab (qs j) p HP.out I.out.bel.size (by omega)) (by rintro e w' ⟨rfl, _⟩; exact ⟨_, rfl⟩)).mono ?_
          rintro e w8 ⟨rfl, hT8, hf8⟩
          have T8 := hide hT8
          have F8 := hide hf8
          clear hT8 hf8 z1 z2 z3
          generalize hBN : wc.heap.size + 1 = BN
          have e8 : w8.heap[BN]? = some (.cells (entryCells (qs j) (R p) p) 51 (0, 0)) := by
            have := T8.out.ent p _ HP.out
            rw [← hBN]; simpa using this
          have E8 := hide e8
          have HBN := hide hBN
          clear e8 hBN
          go_wp2_with fail
          refine (view_any BN p (qs j) (R p) w8 E8.out).mono ?_
          rintro e w9 ⟨rfl, hk9⟩
          have K9 := hide hk9
          clear hk9
          go_wp2_with fail
          refine (setReports_any BN p (qs j) (R p) (1000000 + (j : Int)) w9 (K9.out.at E8.out id)).mono ?_
          rintro e w10 ⟨rfl, hh, hf⟩
          rw [← HBN.out] at hh hf
          obtain ⟨hr, hI2⟩ := I.out.hit_copy HP.out T8.out F8.out K9.out hh hf
          have I2 := hide hI2
          have r1 : w10.cell? ⟨Lb, p, none⟩ = some (.int .i64 (lf p)) := hr.cell hpl
          have r2 : w10.frozen? ⟨Lb, p, none⟩ = false := hr.frozen p
          clear hh hf hr hI2 I K9 T8 F8 E8 HBN
          go_wp2
          go_roundg (n' - (j + 1))
          case measure => go_light; omega
          case rel => exact ⟨j + 1, _, _, _, by omega, rfl, by go_num, I2.out⟩
    · have : j = n' := by omega
      subst this
      go_wp2
      exact HREST.out _ _ _ _ _ _ _ _ _ _ _ _ _ _ _ _ _ _ _ _ _ _ _ _ _ _ _ _ _ _ _ _ _ _ _ _ _ _ _ _ _ _ _ _ _ _ _ _ _ _ _ _ _ _ _ _ _ _ _ _ _ _ _ _ _ _ _ _ _ _ wr ⟨_, _, _, I.out⟩

end Go.Proofs.Qxb6613157a
