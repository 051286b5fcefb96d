import Derived.Test.Qxb6613157aBlk
namespace Go.Proofs.Qxb6613157a
open Go.RowKit Go.WideMaps

set_option maxRecDepth 100000 in
set_option maxHeartbeats 40000000 in
theorem inner (x1 x2 x3 x4 x5 x6 x7 x8 x9 x10 x12 x13 x14 x15 x16 x17 x18 x19 x23 x24 x25 x26 x27 x28 x29 x30 x31 x32 x33 x34 x35 x36 x37 x38 x39 x40 x41 x42 x43 x44 x45 x46 x47 x48 x49 x50 x51 x52 x53 x54 x55 x56 x57 x58 x59 x60 x61 x62 x63 x64 x65 x66 x67 x68 x69 x70 x71 x72 x73 x74 x75 x76 x77 x78 x79 x80 x81 x82 x83 x84 x85 x86 x87 x88 x89 x90 x91 x92 x93 x94 x95 x96 x97 x98 x99 x100 x101 x102 x103 x104 x105 x106 x107 x108 x109 x110 x111 x112 x113 x114 x115 x116 x117 x118 x119 x120 x121 x122 x123 x124 x125 x126 x127 x128 x129 x130 x131 x132 x133 x134 x135 x136 x137 x138 x139 x140 x141 x142 x143 x144 x145 x146 x147 x148 x149 x150 x151 x152 x153 x154 x155 x156 x157 x158 x159 x160 x161 x162 x163 x164 x165 x166 x167 x168 x169 x170 x171 x172 x173 x174 x175 x176 x177 x178 x179 x180 x181 x182 x183 x184 x185 x186 x187 x188 x189 x190 x191 x192 x193 x194 x195 x196 x197 x198 x199 x200 x201 x202 x203 x204 x205 x206 x207 x208 x209 x210 x211 x212 x213 x214 x215 x216 x217 x218 x219 x220 x221 x222 x223 x224 x225 x226 x227 x228 x229 x230 x231 x232 x233 x234 x235 x236 x237 x238 x239 x240 x241 x242 x243 x244 x245 x246 x247 x248 x249 x250 x251 x252 x253 x254 x255 x256 x257 x258 x259 x260 x261 x262 x263 x264 x265 x266 x267 x268 x269 x270 x271 x272 x273 x274 x275 x276 x277 x278 x279 x280 x281 x282 x283 x284 x285 x286 x287 x288 x289 x290 x291 x292 x293 x294 x295 x296 x297 x298 x299 x300 x301 x302 x303 x304 x305 x306 x307 x308 x309 x310 x311 x312 x313 x314 x315 x316 x317 x318 x319 x320 x321 x322 x323 x324 x325 x326 x327 x328 x329 x330 x331 x332 : Value) (n c P Bq : Nat) (a : Option Addr) (ks : Nat → Key3) (q : Key3) (w wq : World) (hn : n ≤ 4096) (h : RawK w a n ks) (hb : Below w.heap.size w wq) (hp : wq.rowIs P 3 n (fun i => .int .i64 (posF ks i)))
    (hq : wq.heap[Bq]? = some (.cells #[.string q.1, .string q.2.1, .string q.2.2] 25 (0, 0))) (K : Act → World → Prop) (Q : Exit → Act → World → Prop)
    (hrest : ∀ (y22 y191 y192 y193 y194 y195 y196 y197 y198 y199 y200 y201 y202 y203 y204 y205 y206 : Value) (z : Int) (wd : World), Kp wq wd → z = posQ (dist ks n) q → K ⟨#[.slice a n c, x1, x2, x3, x4, x5, x6, x7, x8, x9, x10, .slice (some ⟨P, 0, none⟩) n n, x12, x13, x14, x15, x16, x17, x18, x19, .pointer (some ⟨Bq, 0, none⟩), .int .i64 z, y22, x23, x24, x25, x26, x27, x28, x29, x30, x31, x32, x33, x34, x35, x36, x37, x38, x39, x40, x41, x42, x43, x44, x45, x46, x47, x48, x49, x50, x51, x52, x53, x54, x55, x56, x57, x58, x59, x60, x61, x62, x63, x64, x65, x66, x67, x68, x69, x70, x71, x72, x73, x74, x75, x76, x77, x78, x79, x80, x81, x82, x83, x84, x85, x86, x87, x88, x89, x90, x91, x92, x93, x94, x95, x96, x97, x98, x99, x100, x101, x102, x103, x104, x105, x106, x107, x108, x109, x110, x111, x112, x113, x114, x115, x116, x117, x118, x119, x120, x121, x122, x123, x124, x125, x126, x127, x128, x129, x130, x131, x132, x133, x134, x135, x136, x137, x138, x139, x140, x141, x142, x143, x144, x145, x146, x147, x148, x149, x150, x151, x152, x153, x154, x155, x156, x157, x158, x159, x160, x161, x162, x163, x164, x165, x166, x167, x168, x169, x170, x171, x172, x173, x174, x175, x176, x177, x178, x179, x180, x181, x182, x183, x184, x185, x186, x187, x188, x189, x190, y191, y192, y193, y194, y195, y196, y197, y198, y199, y200, y201, y202, y203, y204, y205, y206, x207, x208, x209, x210, x211, x212, x213, x214, x215, x216, x217, x218, x219, x220, x221, x222, x223, x224, x225, x226, x227, x228, x229, x230, x231, x232, x233, x234, x235, x236, x237, x238, x239, x240, x241, x242, x243, x244, x245, x246, x247, x248, x249, x250, x251, x252, x253, x254, x255, x256, x257, x258, x259, x260, x261, x262, x263, x264, x265, x266, x267, x268, x269, x270, x271, x272, x273, x274, x275, x276, x277, x278, x279, x280, x281, x282, x283, x284, x285, x286, x287, x288, x289, x290, x291, x292, x293, x294, x295, x296, x297, x298, x299, x300, x301, x302, x303, x304, x305, x306, x307, x308, x309, x310, x311, x312, x313, x314, x315, x316, x317, x318, x319, x320, x321, x322, x323, x324, x325, x326, x327, x328, x329, x330, x331, x332], []⟩ wd) (cc : Code) (hc : Try.f3.body.bind (blockOf 10) = some cc) :
    Code.wp Try.prog (.block 10 cc) (Exit.then K Q) ⟨#[.slice a n c, x1, x2, x3, x4, x5, x6, x7, x8, x9, x10, .slice (some ⟨P, 0, none⟩) n n, x12, x13, x14, x15, x16, x17, x18, x19, .pointer (some ⟨Bq, 0, none⟩), .int .i64 (-1), .int .i64 0, x23, x24, x25, x26, x27, x28, x29, x30, x31, x32, x33, x34, x35, x36, x37, x38, x39, x40, x41, x42, x43, x44, x45, x46, x47, x48, x49, x50, x51, x52, x53, x54, x55, x56, x57, x58, x59, x60, x61, x62, x63, x64, x65, x66, x67, x68, x69, x70, x71, x72, x73, x74, x75, x76, x77, x78, x79, x80, x81, x82, x83, x84, x85, x86, x87, x88, x89, x90, x91, x92, x93, x94, x95, x96, x97, x98, x99, x100, x101, x102, x103, x104, x105, x106, x107, x108, x109, x110, x111, x112, x113, x114, x115, x116, x117, x118, x119, x120, x121, x122, x123, x124, x125, x126, x127, x128, x129, x130, x131, x132, x133, x134, x135, x136, x137, x138, x139, x140, x141, x142, x143, x144, x145, x146, x147, x148, x149, x150, x151, x152, x153, x154, x155, x156, x157, x158, x159, x160, x161, x162, x163, x164, x165, x166, x167, x168, x169, x170, x171, x172, x173, x174, x175, x176, x177, x178, x179, x180, x181, x182, x183, x184, x185, x186, x187, x188, x189, x190, x191, x192, x193, x194, x195, x196, x197, x198, x199, x200, x201, x202, x203, x204, x205, x206, x207, x208, x209, x210, x211, x212, x213, x214, x215, x216, x217, x218, x219, x220, x221, x222, x223, x224, x225, x226, x227, x228, x229, x230, x231, x232, x233, x234, x235, x236, x237, x238, x239, x240, x241, x242, x243, x244, x245, x246, x247, x248, x249, x250, x251, x252, x253, x254, x255, x256, x257, x258, x259, x260, x261, x262, x263, x264, x265, x266, x267, x268, x269, x270, x271, x272, x273, x274, x275, x276, x277, x278, x279, x280, x281, x282, x283, x284, x285, x286, x287, x288, x289, x290, x291, x292, x293, x294, x295, x296, x297, x298, x299, x300, x301, x302, x303, x304, x305, x306, x307, x308, x309, x310, x311, x312, x313, x314, x315, x316, x317, x318, x319, x320, x321, x322, x323, x324, x325, x326, x327, x328, x329, x330, x331, x332], []⟩ wq := by
  have hc2 : Try.f3.body.bind (blockOf 10) = some _ := rfl
  obtain rfl := Option.some.inj (hc.symm.trans hc2)
  clear hc hc2
  have H := hide h
  have HB := hide hb
  have HPR := hide hp
  have HQ := hide hq
  have HREST := hide hrest
  clear h hb hp hq hrest
  go_wp2_with fail
  go_loopg [21, 22] n (fun g v i wr => ∃ l : Nat, l ≤ n ∧ g = n - l ∧ i = .int .i64 l ∧ v = .int .i64 (-1) ∧ Hid (∀ i', i' < l → ks i' ≠ q) ∧ Kp wq wr)
  case atStart => exact ⟨0, Nat.zero_le _, rfl, rfl, rfl, fun i' hi' => absurd hi' (by omega), Fr.refl _ _⟩
  case round =>
    obtain ⟨l, hl, rfl, rfl, rfl, hne, hk⟩ := hrel
    have HK := hide hk
    clear hk
    by_cases hll : l < n
    · obtain ⟨b2, o2, rfl, x1, x2, x3⟩ := H.out l hll
      clear H
      have hbl2 : b2 < w.heap.size := World.block_lt_of_cell? _ _ x1
      have hbr : Below w.heap.size w wr := below_fr HB.out HK.out HB.out.size (fun _ _ => id)
      have y1 : wr.cell? ⟨b2, o2 + l * 3, none⟩ = some (.string (ks l).1) := (hbr.cell hbl2).trans x1
      have y2 : wr.cell? ⟨b2, o2 + l * 3 + 1, none⟩ = some (.string (ks l).2.1) := (hbr.cell hbl2).trans x2
      have y3 : wr.cell? ⟨b2, o2 + l * 3 + 2, none⟩ = some (.string (ks l).2.2) := (hbr.cell hbl2).trans x3
      have hqr := HK.out.at HQ.out id
      have z1 : wr.cell? ⟨Bq, 0, none⟩ = some (.string q.1) := cell_of_heap hqr rfl
      have z2 : wr.cell? ⟨Bq, 1, none⟩ = some (.string q.2.1) := cell_of_heap hqr rfl
      have z3 : wr.cell? ⟨Bq, 2, none⟩ = some (.string q.2.2) := cell_of_heap hqr rfl
      clear x1 x2 x3 hqr hbr
      by_cases he : ks l = q
      · have HE := hide he
        clear he
        go_upto_region 47 with fail
        go_region_held3 (fun w' => w'.cell? ⟨b2, o2 + l * 3, none⟩ = some (.string (ks l).1) ∧ w'.cell? ⟨b2, o2 + l * 3 + 1, none⟩ = some (.string (ks l).2.1) ∧ w'.cell? ⟨b2, o2 + l * 3 + 2, none⟩ = some (.string (ks l).2.2) ∧ w'.cell? ⟨Bq, 0, none⟩ = some (.string q.1) ∧ w'.cell? ⟨Bq, 1, none⟩ = some (.string q.2.1) ∧ w'.cell? ⟨Bq, 2, none⟩ = some (.string q.2.2)) (first | (refine ⟨?_, ?_, ?_, ?_, ?_, ?_⟩ <;> (refine kp_cell hk9 ?_; assumption)) | go_keep) ((go_at_call 9; refine (sameKey_yes (ks l) q HE.out _).mono ?_; rintro e w' ⟨rfl, hk9⟩))
        have HK9 := hide (HK.out.trans ((Fr.refl _ wr).drew.trans hk9))
        have p2 := (rowIs_fr HPR.out HK9.out id).cell hll
        clear hk9 y1 y2 y3 z1 z2 z3
        go_wp2
        exact HREST.out _ _ _ _ _ _ _ _ _ _ _ _ _ _ _ _ _ _ _ HK9.out (pos_first ks q l n hll hne.out HE.out)
      · have HE := hide he
        clear he
        go_upto_region 47 with fail
        go_region_held3 (fun w' => w'.cell? ⟨b2, o2 + l * 3, none⟩ = some (.string (ks l).1) ∧ w'.cell? ⟨b2, o2 + l * 3 + 1, none⟩ = some (.string (ks l).2.1) ∧ w'.cell? ⟨b2, o2 + l * 3 + 2, none⟩ = some (.string (ks l).2.2) ∧ w'.cell? ⟨Bq, 0, none⟩ = some (.string q.1) ∧ w'.cell? ⟨Bq, 1, none⟩ = some (.string q.2.1) ∧ w'.cell? ⟨Bq, 2, none⟩ = some (.string q.2.2)) (first | (refine ⟨?_, ?_, ?_, ?_, ?_, ?_⟩ <;> (refine kp_cell hk9 ?_; assumption)) | go_keep) ((go_at_call 9; refine (sameKey_no (ks l) q HE.out _).mono ?_; rintro e w' ⟨rfl, hk9⟩))
        have HK9 := hide (HK.out.trans ((Fr.refl _ wr).drew.trans hk9))
        clear hk9 y1 y2 y3 z1 z2 z3
        go_wp2
        go_roundg (n - (l + 1))
        case measure => go_light; omega
        case rel => exact ⟨l + 1, by omega, rfl, by go_num, rfl, first_next hne HE, HK9.out⟩
    · have : l = n := by omega
      subst this
      go_wp2
      exact HREST.out _ _ _ _ _ _ _ _ _ _ _ _ _ _ _ _ _ _ _ HK.out (pos_none ks q l hne.out).symm

end Go.Proofs.Qxb6613157a
