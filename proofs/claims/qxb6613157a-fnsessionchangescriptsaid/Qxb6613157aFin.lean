import Derived.Test.Qxb6613157aBlk
namespace Go.Proofs.Qxb6613157a
open Go.RowKit Go.WideMaps

set_option maxRecDepth 100000 in
set_option maxHeartbeats 40000000 in
theorem finale (x0 x1 x3 x4 x5 x6 x7 x8 x9 x11 x13 x14 x15 x18 x19 x20 x21 x22 x23 x24 x25 x26 x27 x28 x31 x32 x33 x34 x35 x36 x37 x38 x39 x40 x41 x42 x43 x44 x45 x46 x47 x48 x49 x50 x51 x52 x53 x54 x55 x56 x57 x58 x59 x60 x61 x62 x63 x64 x65 x66 x67 x68 x69 x70 x71 x72 x73 x74 x75 x76 x77 x78 x79 x80 x81 x82 x83 x84 x85 x86 x87 x88 x89 x90 x91 x92 x93 x94 x95 x96 x97 x98 x99 x100 x101 x102 x103 x104 x105 x106 x107 x108 x109 x110 x111 x112 x113 x114 x115 x116 x117 x118 x119 x120 x121 x122 x123 x124 x125 x126 x127 x128 x129 x130 x131 x132 x133 x134 x135 x136 x137 x138 x139 x140 x141 x142 x143 x144 x145 x146 x147 x148 x149 x150 x151 x152 x153 x154 x155 x156 x157 x158 x159 x160 x161 x162 x163 x164 x165 x166 x167 x168 x169 x170 x171 x172 x173 x174 x175 x176 x177 x178 x179 x180 x181 x182 x183 x184 x185 x186 x187 x188 x189 x190 x191 x192 x193 x194 x195 x196 x197 x198 x199 x200 x201 x202 x203 x204 x205 x206 x207 x208 x209 x210 x211 x212 x213 x214 x215 x216 x217 x218 x219 x220 x221 x222 x223 x224 x225 x226 x227 x228 x229 x230 x231 x232 x233 x234 x235 x236 x237 x238 x239 x240 x241 x242 x243 x244 x245 x246 x247 x248 x249 x250 x251 x252 x253 x254 x255 x256 x257 x258 x259 x260 x261 x262 x263 x264 x265 x266 x267 x268 x269 x270 x271 x272 x273 x274 x275 x276 x277 x278 x279 x280 x281 x282 x283 x284 x285 x286 x287 x288 x289 x290 x291 x292 x293 x294 x295 x296 x297 x298 x299 x300 x301 x302 x303 x304 x305 x306 x307 x308 x309 x310 x311 x312 x313 x314 x315 x316 x317 x318 x319 x320 x321 x322 x323 x324 x325 x326 x327 x328 x329 x330 x331 x332 : Value) (n n' : Nat) (ks : Nat → Key3) (sh : Bool) (T M L P Lb : Nat) (E0 : Nat → Nat) (ba : Option Addr) (bc oc : Nat) (oa : Option Addr) (w wc : World) (hn : n ≤ 4096) (hn' : n' ≤ 4096)
    (E : Nat → Nat) (R lf : Nat → Int) (hI : Inv6 w wc T M L P Lb sh ks n (.slice oa (dist ks n).length oc) (.slice ba (dist ks n).length bc) E0 n' E R lf) (K : Act → World → Prop) (Q : Exit → Act → World → Prop)
    (hrest : ∀ (y6 y30 y31 y32 y33 y34 y35 y36 y37 y38 y39 y40 y41 y42 y246 y247 y248 y249 y250 y251 y252 y253 y254 y255 y256 y257 y258 y259 y260 y261 y262 y263 y264 y265 y266 y267 y268 y269 y270 y271 y272 y273 y274 y275 y276 y277 y278 y279 y280 y281 y282 y283 y284 y285 y286 y287 y288 y289 y290 y291 y292 y293 y294 y295 y296 y297 y298 y299 y300 y301 y302 y303 y304 y305 y306 y307 y308 y309 y310 y311 y312 y313 y314 y315 y316 y317 y318 y319 y320 y321 y322 y323 y324 y325 y326 y327 y328 y329 y330 y331 y332 : Value) (wd : World), Kp wc wd → K ⟨#[x0, x1, .bool sh, x3, x4, x5, y6, x7, x8, x9, ptr T, x11, .int .i64 (dist ks n).length, x13, x14, x15, .slice ba (dist ks n).length bc, .slice (some ⟨Lb, 0, none⟩) (dist ks n).length (dist ks n).length, x18, x19, x20, x21, x22, x23, x24, x25, x26, x27, x28, .slice oa (dist ks n).length oc, y30, y31, y32, y33, y34, y35, y36, y37, y38, y39, y40, y41, y42, x43, x44, x45, x46, x47, x48, x49, x50, x51, x52, x53, x54, x55, x56, x57, x58, x59, x60, x61, x62, x63, x64, x65, x66, x67, x68, x69, x70, x71, x72, x73, x74, x75, x76, x77, x78, x79, x80, x81, x82, x83, x84, x85, x86, x87, x88, x89, x90, x91, x92, x93, x94, x95, x96, x97, x98, x99, x100, x101, x102, x103, x104, x105, x106, x107, x108, x109, x110, x111, x112, x113, x114, x115, x116, x117, x118, x119, x120, x121, x122, x123, x124, x125, x126, x127, x128, x129, x130, x131, x132, x133, x134, x135, x136, x137, x138, x139, x140, x141, x142, x143, x144, x145, x146, x147, x148, x149, x150, x151, x152, x153, x154, x155, x156, x157, x158, x159, x160, x161, x162, x163, x164, x165, x166, x167, x168, x169, x170, x171, x172, x173, x174, x175, x176, x177, x178, x179, x180, x181, x182, x183, x184, x185, x186, x187, x188, x189, x190, x191, x192, x193, x194, x195, x196, x197, x198, x199, x200, x201, x202, x203, x204, x205, x206, x207, x208, x209, x210, x211, x212, x213, x214, x215, x216, x217, x218, x219, x220, x221, x222, x223, x224, x225, x226, x227, x228, x229, x230, x231, x232, x233, x234, x235, x236, x237, x238, x239, x240, x241, x242, x243, x244, x245, y246, y247, y248, y249, y250, y251, y252, y253, y254, y255, y256, y257, y258, y259, y260, y261, y262, y263, y264, y265, y266, y267, y268, y269, y270, y271, y272, y273, y274, y275, y276, y277, y278, y279, y280, y281, y282, y283, y284, y285, y286, y287, y288, y289, y290, y291, y292, y293, y294, y295, y296, y297, y298, y299, y300, y301, y302, y303, y304, y305, y306, y307, y308, y309, y310, y311, y312, y313, y314, y315, y316, y317, y318, y319, y320, y321, y322, y323, y324, y325, y326, y327, y328, y329, y330, y331, y332], []⟩ wd) (c : Code) (hc : Try.f3.body.bind (blockOf 12) = some c) :
    Code.wp Try.prog (.block 12 c) (Exit.then K Q) ⟨#[x0, x1, .bool sh, x3, x4, x5, x6, x7, x8, x9, ptr T, x11, .int .i64 (dist ks n).length, x13, x14, x15, .slice ba (dist ks n).length bc, .slice (some ⟨Lb, 0, none⟩) (dist ks n).length (dist ks n).length, x18, x19, x20, x21, x22, x23, x24, x25, x26, x27, x28, .slice oa (dist ks n).length oc, .int .i64 0, x31, x32, x33, x34, x35, x36, x37, x38, x39, x40, x41, x42, x43, x44, x45, x46, x47, x48, x49, x50, x51, x52, x53, x54, x55, x56, x57, x58, x59, x60, x61, x62, x63, x64, x65, x66, x67, x68, x69, x70, x71, x72, x73, x74, x75, x76, x77, x78, x79, x80, x81, x82, x83, x84, x85, x86, x87, x88, x89, x90, x91, x92, x93, x94, x95, x96, x97, x98, x99, x100, x101, x102, x103, x104, x105, x106, x107, x108, x109, x110, x111, x112, x113, x114, x115, x116, x117, x118, x119, x120, x121, x122, x123, x124, x125, x126, x127, x128, x129, x130, x131, x132, x133, x134, x135, x136, x137, x138, x139, x140, x141, x142, x143, x144, x145, x146, x147, x148, x149, x150, x151, x152, x153, x154, x155, x156, x157, x158, x159, x160, x161, x162, x163, x164, x165, x166, x167, x168, x169, x170, x171, x172, x173, x174, x175, x176, x177, x178, x179, x180, x181, x182, x183, x184, x185, x186, x187, x188, x189, x190, x191, x192, x193, x194, x195, x196, x197, x198, x199, x200, x201, x202, x203, x204, x205, x206, x207, x208, x209, x210, x211, x212, x213, x214, x215, x216, x217, x218, x219, x220, x221, x222, x223, x224, x225, x226, x227, x228, x229, x230, x231, x232, x233, x234, x235, x236, x237, x238, x239, x240, x241, x242, x243, x244, x245, x246, x247, x248, x249, x250, x251, x252, x253, x254, x255, x256, x257, x258, x259, x260, x261, x262, x263, x264, x265, x266, x267, x268, x269, x270, x271, x272, x273, x274, x275, x276, x277, x278, x279, x280, x281, x282, x283, x284, x285, x286, x287, x288, x289, x290, x291, x292, x293, x294, x295, x296, x297, x298, x299, x300, x301, x302, x303, x304, x305, x306, x307, x308, x309, x310, x311, x312, x313, x314, x315, x316, x317, x318, x319, x320, x321, x322, x323, x324, x325, x326, x327, x328, x329, x330, x331, x332], []⟩ wc := by
  have hc2 : Try.f3.body.bind (blockOf 12) = some _ := rfl
  obtain rfl := Option.some.inj (hc.symm.trans hc2)
  clear hc hc2
  have I := hide hI
  have HREST := hide hrest
  have hle := dist_length ks n
  clear hI hrest
  go_wp2_with fail
  go_loopg [30] (dist ks n).length (fun g i wr => ∃ p : Nat, p ≤ (dist ks n).length ∧ g = (dist ks n).length - p ∧ i = .int .i64 p ∧ Kp wc wr)
  case atStart => exact ⟨0, Nat.zero_le _, rfl, rfl, Fr.refl _ _⟩
  case round =>
    obtain ⟨p, hp, rfl, rfl, hk⟩ := hrel
    have I2 := hide (I.out.kp hk)
    have KWR := hide hk
    clear hk I
    by_cases hlt : p < (dist ks n).length
    · rcases I2.out.tab.ord.2 with ⟨_, h0⟩ | ⟨g, cap, cur, e1, _⟩
      · omega
      obtain ⟨rfl, rfl⟩ : oa = some ⟨g, 0, none⟩ ∧ oc = cap := by simpa using e1
      rcases I2.out.bef.row.2 with ⟨_, h0⟩ | ⟨gb, capb, curb, e2, _⟩
      · omega
      obtain ⟨rfl, rfl⟩ : ba = some ⟨gb, 0, none⟩ ∧ bc = capb := by simpa using e2
      clear e1 e2
      obtain ⟨k, HKK⟩ : ∃ k, Hid ((dist ks n)[p]? = some k) := ⟨_, List.getElem?_eq_getElem hlt⟩
      have o1 : wr.cell? ⟨g, p, none⟩ = some (ptr (E p)) := by rw [I2.out.tab.ord.cellAt p (by omega), ordRow_at _ _ _ hlt]
      have o2 : wr.cell? ⟨gb, p, none⟩ = some (ptr (E0 p)) := by rw [I2.out.bef.row.cellAt p (by omega), ordRow_at _ _ _ hlt]
      have o3 : wr.cell? ⟨Lb, p, none⟩ = some (.int .i64 (lf p)) := I2.out.last.cell hlt
      have hrng := I2.out.rng p hlt
      by_cases hl : 0 ≤ lf p
      · have HR : Hid (R p = 1000000 + lf p) := by have := I2.out.rep p hlt; rw [if_pos hl] at this; exact this
        have hl2 : lf p < 4096 := by omega
        clear hrng
        cases sh with
        | true =>
          have hne : E p ≠ E0 p := (I2.out.old rfl).2.1 p hlt hl p hlt
          have en := I2.out.tab.ent p k HKK.out
          have en0 := (I2.out.old rfl).2.2 p k HKK.out
          rw [HR.out] at en
          have EN := hide en
          have EN0 := hide en0
          clear en en0
          have HNE := hide hne
          clear hne
          go_wp2_with fail
          refine (view_any (E p) p k _ wr EN.out).mono ?_
          rintro e w12 ⟨rfl, hk12⟩
          have K12 := hide hk12
          have q2 := kp_cell hk12 o2
          have q3 := kp_cell hk12 o3
          have ns := neq_same (E p)
          clear hk12 o1 o2 o3
          go_wp2_with fail
          refine (lookup_yes (I2.out.tab.kp K12.out) k p HKK.out).mono ?_
          rintro e w13 ⟨rfl, hw13⟩
          obtain rfl : w12 = w13 := hw13.symm
          clear hw13
          go_wp2_with fail
          refine (view_any (E0 p) p k _ w12 (K12.out.at EN0.out id)).mono ?_
          rintro e w14 ⟨rfl, hk14⟩
          have K14 := hide (K12.out.trans hk14)
          have r2 := kp_cell hk14 q2
          have r3 := kp_cell hk14 q3
          have es := eql_other HNE.out (K14.out.at EN.out id) (K14.out.at EN0.out id)
          clear hk14 q2 q3
          go_wp2
          go_quiet (fail)
          go_wp2
          have KE := hide (KWR.out.trans (K14.out.drewN nq))
          go_roundg ((dist ks n).length - (p + 1))
          case measure => go_light; omega
          case rel => exact ⟨p + 1, by omega, rfl, by go_num, KE.out⟩
        | false =>
          have hsm : E p = E0 p := I2.out.same rfl p hlt
          have en := I2.out.tab.ent p k HKK.out
          rw [HR.out] at en
          rw [← hsm] at o2
          have en0 := en
          have EN := hide en
          have EN0 := hide en0
          clear en en0
          clear hsm
          go_wp2_with fail
          refine (view_any (E p) p k _ wr EN.out).mono ?_
          rintro e w12 ⟨rfl, hk12⟩
          have K12 := hide hk12
          have q2 := kp_cell hk12 o2
          have q3 := kp_cell hk12 o3
          have ns := neq_same (E p)
          clear hk12 o1 o2 o3
          go_wp2_with fail
          refine (lookup_yes (I2.out.tab.kp K12.out) k p HKK.out).mono ?_
          rintro e w13 ⟨rfl, hw13⟩
          obtain rfl : w12 = w13 := hw13.symm
          clear hw13
          go_wp2_with fail
          refine (view_any (E p) p k _ w12 (K12.out.at EN0.out id)).mono ?_
          rintro e w14 ⟨rfl, hk14⟩
          have K14 := hide (K12.out.trans hk14)
          have r2 := kp_cell hk14 q2
          have r3 := kp_cell hk14 q3
          clear hk14 q2 q3
          go_wp2
          have KE := hide (KWR.out.trans K14.out)
          go_roundg ((dist ks n).length - (p + 1))
          case measure => go_light; omega
          case rel => exact ⟨p + 1, by omega, rfl, by go_num, KE.out⟩
      · have HR : Hid (R p = (p : Int) + 1) := by have := I2.out.rep p hlt; rw [if_neg hl] at this; exact this
        clear hrng
        cases sh with
        | true =>
          have hsm : E p = E0 p := (I2.out.old rfl).1 p hlt (by omega)
          have en := I2.out.tab.ent p k HKK.out
          rw [HR.out] at en
          rw [← hsm] at o2
          have en0 := en
          have EN := hide en
          have EN0 := hide en0
          clear en en0
          clear hsm
          go_wp2_with fail
          refine (view_any (E p) p k _ wr EN.out).mono ?_
          rintro e w12 ⟨rfl, hk12⟩
          have K12 := hide hk12
          have q2 := kp_cell hk12 o2
          have q3 := kp_cell hk12 o3
          have ns := neq_same (E p)
          clear hk12 o1 o2 o3
          go_wp2_with fail
          refine (lookup_yes (I2.out.tab.kp K12.out) k p HKK.out).mono ?_
          rintro e w13 ⟨rfl, hw13⟩
          obtain rfl : w12 = w13 := hw13.symm
          clear hw13
          go_wp2_with fail
          refine (view_any (E p) p k _ w12 (K12.out.at EN0.out id)).mono ?_
          rintro e w14 ⟨rfl, hk14⟩
          have K14 := hide (K12.out.trans hk14)
          have r2 := kp_cell hk14 q2
          have r3 := kp_cell hk14 q3
          have es := eql_same (E p)
          clear hk14 q2 q3
          go_wp2
          go_quiet (fail)
          go_wp2
          have KE := hide (KWR.out.trans (K14.out.drewN nq))
          go_roundg ((dist ks n).length - (p + 1))
          case measure => go_light; omega
          case rel => exact ⟨p + 1, by omega, rfl, by go_num, KE.out⟩
        | false =>
          have hsm : E p = E0 p := I2.out.same rfl p hlt
          have en := I2.out.tab.ent p k HKK.out
          rw [HR.out] at en
          rw [← hsm] at o2
          have en0 := en
          have EN := hide en
          have EN0 := hide en0
          clear en en0
          clear hsm
          go_wp2_with fail
          refine (view_any (E p) p k _ wr EN.out).mono ?_
          rintro e w12 ⟨rfl, hk12⟩
          have K12 := hide hk12
          have q2 := kp_cell hk12 o2
          have q3 := kp_cell hk12 o3
          have ns := neq_same (E p)
          clear hk12 o1 o2 o3
          go_wp2_with fail
          refine (lookup_yes (I2.out.tab.kp K12.out) k p HKK.out).mono ?_
          rintro e w13 ⟨rfl, hw13⟩
          obtain rfl : w12 = w13 := hw13.symm
          clear hw13
          go_wp2_with fail
          refine (view_any (E p) p k _ w12 (K12.out.at EN0.out id)).mono ?_
          rintro e w14 ⟨rfl, hk14⟩
          have K14 := hide (K12.out.trans hk14)
          have r2 := kp_cell hk14 q2
          have r3 := kp_cell hk14 q3
          clear hk14 q2 q3
          go_wp2
          have KE := hide (KWR.out.trans K14.out)
          go_roundg ((dist ks n).length - (p + 1))
          case measure => go_light; omega
          case rel => exact ⟨p + 1, by omega, rfl, by go_num, KE.out⟩
    · go_wp2
      exact HREST.out _ _ _ _ _ _ _ _ _ _ _ _ _ _ _ _ _ _ _ _ _ _ _ _ _ _ _ _ _ _ _ _ _ _ _ _ _ _ _ _ _ _ _ _ _ _ _ _ _ _ _ _ _ _ _ _ _ _ _ _ _ _ _ _ _ _ _ _ _ _ _ _ _ _ _ _ _ _ _ _ _ _ _ _ _ _ _ _ _ _ _ _ _ _ _ _ _ _ _ _ _ wr KWR.out


end Go.Proofs.Qxb6613157a
