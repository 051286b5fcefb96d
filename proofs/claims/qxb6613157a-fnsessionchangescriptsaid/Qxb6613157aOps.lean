import Derived.Test.Qxb6613157aBlk
namespace Go.Proofs.Qxb6613157a
open Go.RowKit Go.WideMaps

set_option maxRecDepth 100000 in
set_option maxHeartbeats 40000000 in
theorem opens (x1 x2 x3 x4 x5 x6 x7 x8 x9 x14 x15 x16 x17 x18 x19 x20 x21 x22 x23 x24 x25 x26 x27 x28 x29 x30 x31 x32 x33 x34 x35 x36 x37 x38 x39 x40 x41 x42 x43 x44 x45 x46 x47 x48 x49 x50 x51 x52 x53 x54 x55 x56 x57 x58 x59 x60 x61 x62 x63 x64 x65 x66 x67 x68 x69 x70 x71 x72 x73 x74 x75 x76 x77 x78 x79 x80 x81 x82 x83 x84 x85 x86 x87 x88 x89 x90 x91 x92 x93 x94 x95 x96 x97 x98 x99 x100 x101 x102 x103 x104 x105 x106 x107 x108 x109 x110 x111 x112 x113 x114 x115 x116 x117 x118 x119 x120 x121 x122 x123 x124 x125 x126 x127 x128 x129 x130 x131 x132 x133 x134 x135 x136 x137 x138 x139 x140 x141 x142 x143 x144 x145 x146 x147 x148 x149 x150 x151 x152 x153 x154 x155 x156 x157 x158 x159 x160 x161 x162 x163 x164 x165 x166 x167 x168 x169 x170 x171 x172 x173 x174 x175 x176 x177 x178 x179 x180 x181 x182 x183 x184 x185 x186 x187 x188 x189 x190 x191 x192 x193 x194 x195 x196 x197 x198 x199 x200 x201 x202 x203 x204 x205 x206 x207 x208 x209 x210 x211 x212 x213 x214 x215 x216 x217 x218 x219 x220 x221 x222 x223 x224 x225 x226 x227 x228 x229 x230 x231 x232 x233 x234 x235 x236 x237 x238 x239 x240 x241 x242 x243 x244 x245 x246 x247 x248 x249 x250 x251 x252 x253 x254 x255 x256 x257 x258 x259 x260 x261 x262 x263 x264 x265 x266 x267 x268 x269 x270 x271 x272 x273 x274 x275 x276 x277 x278 x279 x280 x281 x282 x283 x284 x285 x286 x287 x288 x289 x290 x291 x292 x293 x294 x295 x296 x297 x298 x299 x300 x301 x302 x303 x304 x305 x306 x307 x308 x309 x310 x311 x312 x313 x314 x315 x316 x317 x318 x319 x320 x321 x322 x323 x324 x325 x326 x327 x328 x329 x330 x331 x332 : Value) (n c T M L P : Nat) (a : Option Addr) (ks : Nat → Key3) (sh : Bool) (w w3 : World) (hn : n ≤ 4096) (h : RawK w a n ks) (hok : ∀ i, i < n → (ks i).ok)
    (hI3 : Inv3 w w3 T M L P sh ks n 0 (fun _ => 0) (fun _ => 0) (.slice none 0 0)) (K : Act → World → Prop) (Q : Exit → Act → World → Prop)
    (hrest : ∀ (y13 y14 y123 y124 y125 y126 y127 y128 y129 y130 y131 y132 y133 y134 y135 y136 y137 y138 y139 y140 y141 y142 y143 y144 y145 y146 y147 y148 y149 y150 y151 y152 y153 y154 y155 y156 y157 y158 y159 y160 : Value) (wd : World) (E : Nat → Nat) (R : Nat → Int) (ov : Value), Inv3 w wd T M L P sh ks n n E R ov → K ⟨#[.slice a n c, x1, x2, x3, x4, x5, x6, x7, x8, x9, ptr T, .slice (some ⟨P, 0, none⟩) n n, .int .i64 (dist ks n).length, y13, y14, x15, x16, x17, x18, x19, x20, x21, x22, x23, x24, x25, x26, x27, x28, x29, x30, x31, x32, x33, x34, x35, x36, x37, x38, x39, x40, x41, x42, x43, x44, x45, x46, x47, x48, x49, x50, x51, x52, x53, x54, x55, x56, x57, x58, x59, x60, x61, x62, x63, x64, x65, x66, x67, x68, x69, x70, x71, x72, x73, x74, x75, x76, x77, x78, x79, x80, x81, x82, x83, x84, x85, x86, x87, x88, x89, x90, x91, x92, x93, x94, x95, x96, x97, x98, x99, x100, x101, x102, x103, x104, x105, x106, x107, x108, x109, x110, x111, x112, x113, x114, x115, x116, x117, x118, x119, x120, x121, x122, y123, y124, y125, y126, y127, y128, y129, y130, y131, y132, y133, y134, y135, y136, y137, y138, y139, y140, y141, y142, y143, y144, y145, y146, y147, y148, y149, y150, y151, y152, y153, y154, y155, y156, y157, y158, y159, y160, x161, x162, x163, x164, x165, x166, x167, x168, x169, x170, x171, x172, x173, x174, x175, x176, x177, x178, x179, x180, x181, x182, x183, x184, x185, x186, x187, x188, x189, x190, x191, x192, x193, x194, x195, x196, x197, x198, x199, x200, x201, x202, x203, x204, x205, x206, x207, x208, x209, x210, x211, x212, x213, x214, x215, x216, x217, x218, x219, x220, x221, x222, x223, x224, x225, x226, x227, x228, x229, x230, x231, x232, x233, x234, x235, x236, x237, x238, x239, x240, x241, x242, x243, x244, x245, x246, x247, x248, x249, x250, x251, x252, x253, x254, x255, x256, x257, x258, x259, x260, x261, x262, x263, x264, x265, x266, x267, x268, x269, x270, x271, x272, x273, x274, x275, x276, x277, x278, x279, x280, x281, x282, x283, x284, x285, x286, x287, x288, x289, x290, x291, x292, x293, x294, x295, x296, x297, x298, x299, x300, x301, x302, x303, x304, x305, x306, x307, x308, x309, x310, x311, x312, x313, x314, x315, x316, x317, x318, x319, x320, x321, x322, x323, x324, x325, x326, x327, x328, x329, x330, x331, x332], []⟩ wd) (cc : Code) (hc : Try.f3.body.bind (blockOf 4) = some cc) :
    Code.wp Try.prog (.block 4 cc) (Exit.then K Q) ⟨#[.slice a n c, x1, x2, x3, x4, x5, x6, x7, x8, x9, ptr T, .slice (some ⟨P, 0, none⟩) n n, .int .i64 0, .int .i64 0, x14, x15, x16, x17, x18, x19, x20, x21, x22, x23, x24, x25, x26, x27, x28, x29, x30, x31, x32, x33, x34, x35, x36, x37, x38, x39, x40, x41, x42, x43, x44, x45, x46, x47, x48, x49, x50, x51, x52, x53, x54, x55, x56, x57, x58, x59, x60, x61, x62, x63, x64, x65, x66, x67, x68, x69, x70, x71, x72, x73, x74, x75, x76, x77, x78, x79, x80, x81, x82, x83, x84, x85, x86, x87, x88, x89, x90, x91, x92, x93, x94, x95, x96, x97, x98, x99, x100, x101, x102, x103, x104, x105, x106, x107, x108, x109, x110, x111, x112, x113, x114, x115, x116, x117, x118, x119, x120, x121, x122, x123, x124, x125, x126, x127, x128, x129, x130, x131, x132, x133, x134, x135, x136, x137, x138, x139, x140, x141, x142, x143, x144, x145, x146, x147, x148, x149, x150, x151, x152, x153, x154, x155, x156, x157, x158, x159, x160, x161, x162, x163, x164, x165, x166, x167, x168, x169, x170, x171, x172, x173, x174, x175, x176, x177, x178, x179, x180, x181, x182, x183, x184, x185, x186, x187, x188, x189, x190, x191, x192, x193, x194, x195, x196, x197, x198, x199, x200, x201, x202, x203, x204, x205, x206, x207, x208, x209, x210, x211, x212, x213, x214, x215, x216, x217, x218, x219, x220, x221, x222, x223, x224, x225, x226, x227, x228, x229, x230, x231, x232, x233, x234, x235, x236, x237, x238, x239, x240, x241, x242, x243, x244, x245, x246, x247, x248, x249, x250, x251, x252, x253, x254, x255, x256, x257, x258, x259, x260, x261, x262, x263, x264, x265, x266, x267, x268, x269, x270, x271, x272, x273, x274, x275, x276, x277, x278, x279, x280, x281, x282, x283, x284, x285, x286, x287, x288, x289, x290, x291, x292, x293, x294, x295, x296, x297, x298, x299, x300, x301, x302, x303, x304, x305, x306, x307, x308, x309, x310, x311, x312, x313, x314, x315, x316, x317, x318, x319, x320, x321, x322, x323, x324, x325, x326, x327, x328, x329, x330, x331, x332], []⟩ w3 := by
  have hc2 : Try.f3.body.bind (blockOf 4) = some _ := rfl
  obtain rfl := Option.some.inj (hc.symm.trans hc2)
  clear hc hc2
  have H := hide h
  have HOK := hide hok
  have I3 := hide hI3
  have HREST := hide hrest
  clear h hok hI3 hrest
  go_wp2_with fail
  go_loopw [12, 13] (fun v i wr => ∃ (j : Nat) (E : Nat → Nat) (R : Nat → Int) (ov : Value), j ≤ n ∧ i = .int .i64 j ∧ v = .int .i64 (dist ks j).length ∧ Inv3 w wr T M L P sh ks n j E R ov) (fun _ i _ => n - (intOf i).toNat)
  case atStart => exact ⟨0, _, _, _, Nat.zero_le _, rfl, rfl, I3⟩
  case round =>
    clear I3
    obtain ⟨j, E, R, ov, hj, rfl, rfl, hI⟩ := hrel
    have I := hide hI
    clear hI
    by_cases hlt : j < n
    · obtain ⟨b, o, rfl, x1, x2, x3⟩ := H.out j hlt
      clear H
      have hbl : b < w.heap.size := World.block_lt_of_cell? _ _ x1
      have hle := dist_length ks j
      have y1 : wr.cell? ⟨b, o + j * 3, none⟩ = some (.string (ks j).1) := (I.out.bel.cell hbl).trans x1
      have y2 : wr.cell? ⟨b, o + j * 3 + 1, none⟩ = some (.string (ks j).2.1) := (I.out.bel.cell hbl).trans x2
      have y3 : wr.cell? ⟨b, o + j * 3 + 2, none⟩ = some (.string (ks j).2.2) := (I.out.bel.cell hbl).trans x3
      obtain ⟨f, hf, _⟩ := I.out.pos
      have p1 : wr.cell? ⟨P, j, none⟩ = some (f j) := hf.cell hlt
      have p2 : wr.frozen? ⟨P, j, none⟩ = false := hf.frozen j
      have p3 := hf.lt
      clear hf x1 x2 x3
      by_cases hm : ks j ∈ dist ks j
      · obtain ⟨p, hp⟩ := List.mem_iff_getElem?.1 hm
        go_wp2_with fail
        refine (lookup_yes (I.out.mid _ _).1 (ks j) p hp).mono ?_
        rintro e w4 ⟨rfl, hw4⟩
        subst hw4
        go_wp2
        go_roundw
        case rel => exact ⟨j + 1, E, R, ov, by omega, by go_num, by rw [dist_same ks j hm], I.out.dup hm _⟩
        case measure => simp [intOf]; omega
      · go_wp2_with fail
        refine (lookup_no (I.out.mid _ _).1 (ks j) (HOK.out j hlt) hm).mono ?_
        rintro e w4 ⟨rfl, hw4⟩
        subst hw4
        have I2 := hide (I.out.touch (.int .i64 (-1)))
        go_wp2_with fail
        refine (open_any (I2.out.mid _ _).1 (ks j) (HOK.out j hlt) hm _ (by omega) (I2.out.mid _ _).2.2.size).mono ?_
        rintro e w5 ⟨rfl, v', hT5, hF5⟩
        have I5 := hide (I2.out.fresh hm _ hT5 rfl hF5)
        clear hT5 hF5 I2
        go_wp2
        go_roundw
        case rel => exact ⟨j + 1, _, _, v', by omega, by go_num, by rw [dist_new ks j hm, List.length_append]; go_num, I5.out⟩
        case measure => simp [intOf]; omega
    · have : j = n := by omega
      subst this
      go_wp2
      exact HREST.out _ _ _ _ _ _ _ _ _ _ _ _ _ _ _ _ _ _ _ _ _ _ _ _ _ _ _ _ _ _ _ _ _ _ _ _ _ _ _ _ wr _ _ _ I.out

end Go.Proofs.Qxb6613157a
