import Derived.Test.Qxb6603801aEq
import Derived.Test.Qxb6603801aIo
import Derived.Test.Qxb6603801aL3
import Derived.Test.Qxb6603801aEg
import Derived.Test.Qxb6603801aNav
import Derived.Deep.DeepCutAuto
import Derived.Deep.LoopGhost
import Derived.BigQuiet
namespace Go.Proofs.Qxb6603801a
open Go.RowKit

set_option maxRecDepth 100000 in
set_option maxHeartbeats 20000000 in
theorem l7 {x0 x3 x5 x6 x7 x8 x9 x10 x11 x12 x13 x14 x17 x19 x20 x21 x22 x24 x25 x26 x29 x30 x31 x32 x33 x34 x35 x37 x38 x39 x40 x41 x42 x43 x44 x45 x46 x47 x48 x49 x50 x51 x52 x53 x54 x55 x56 x57 x58 x59 x60 x61 x62 x63 x64 x65 x66 x67 x68 x69 x70 x71 x72 x73 x74 x75 x76 x77 x78 x79 x80 x81 x82 x83 x84 x85 x86 x87 x88 x89 x90 x91 x92 x93 x94 x95 x96 x97 x98 x99 x100 x101 x102 x103 x104 x105 x106 x107 x108 x109 x110 x111 x112 x113 x114 x115 x116 x117 x118 x119 x120 x121 x122 x123 x124 x125 x126 x127 x128 x129 x130 x131 x132 x133 x134 x135 x136 x137 x138 x139 x140 x141 x142 x143 x144 x145 x146 x147 x148 x149 x150 x151 x152 x153 x154 x155 x156 x157 x158 x159 x160 x161 x162 x163 x164 x165 x166 x167 x168 x169 x170 x171 x172 x173 x174 x175 x176 x177 x178 x179 x180 x181 x182 x183 x184 x185 x186 x187 x188 x189 x190 x191 x192 x193 x194 x195 x196 x197 x198 x199 x200 x201 x202 x203 x204 x205 x206 x207 x208 x209 x210 x211 x212 x213 x214 x215 x216 x217 x218 x219 x220 x221 x222 x223 x224 x225 x226 x227 x228 x229 x230 x231 x232 x233 x234 x235 x236 x237 x238 x239 x240 x241 x242 x243 x244 x245 x246 x247 x248 x249 x250 x251 x252 x253 x254 x255 x256 x257 x258 x259 x260 x261 x262 x263 x264 x265 x266 x267 x268 x269 x270 x271 x272 x273 x274 x275 x276 x277 x278 x279 x280 x281 x282 x283 x284 x285 x286 x287 x288 x289 x290 x291 x292 x293 x294 x295 x296 x297 x298 x299 x300 x301 x302 x303 x304 x305 x306 x307 x308 x309 x310 x311 x312 x313 x314 x315 x316 x317 x318 x319 x320 x321 x322 x323 x324 x325 x326 x327 x328 x329 x330 x331 x332 x333 x334 x335 x336 x337 x338 x339 x340 x341 x342 x343 x344 x345 x346 x347 x348 x349 x350 x351 x352 x353 x354 x355 x356 x357 x358 x359 x360 x361 x362 x363 x364 x365 x366 x367 x368 x369 x370 x371 x372 x373 x374 x375 x376 x377 x378 x379 x380 x381 x382 x383 x384 x385 x386 x387 x388 x389 x390 x391 x392 x393 x394 x395 x396 x397 x398 x399 x400 x401 x402 x403 x404 x405 x406 x407 x408 x409 x410 x411 x412 x413 x414 x415 x416 x417 x418 x419 x420 x421 x422 x423 x424 x425 x426 x427 x428 x429 x430 x431 x432 x433 x434 x435 x436 x437 x438 x439 x440 x441 x442 x443 x444 x445 x446 x447 x448 x449 x450 x451 x452 x453 x454 x455 x456 x457 x458 x459 x460 x461 x462 x463 x464 x465 x466 x467 x468 x469 x470 x471 x472 x473 x474 x475 x476 x477 x478 x479 x480 x481 x482 x483 x484 x485 x486 x487 : Value} {K : Act → World → Prop} {B n parts m fl c T bb c2 c3 c5 d1 d2 d4 fc : Nat} {key : Nat → Key} {ln : Nat → Nat} {KK : Nat → Key} {M Pt : Nat → List Nat} {gr : Nat → Int} {a2 a3 a4 a5 o1 o2 o4 fv : Option Addr} {wx : World}
    (hin : Hid (Inp B wx n parts m fl key ln a2 a3 a4 a5)) (hc : Hid (c = (fs key n).length)) (hT : Hid (T = bG key ln n (fs key n).length)) (hTb : T ≤ 1048576) (hfs : Hid (Ints B wx fv c fun i => ((fs key n).getD i 0 : Nat))) (hbi : Hid (Ints B wx (some ⟨bb, 0, none⟩) c fun g => (bG key ln n g : Int))) (hP : Hid (P2 key ln n (fs key n).length 0 KK M Pt gr)) (huns : Hid (Units B wx o1 T (fun g => (KK g).1) fun g => (KK g).2.1)) (hnds : Hid (Ints B wx o2 T fun g => (KK g).2.2)) (hpar : Hid (∀ g, g < T → ∃ b o ma mc, o4 = some ⟨b, o, none⟩ ∧ b < B ∧ wx.cell? ⟨b, o + g, none⟩ = some (.slice ma (Pt g).length mc) ∧ (Pt g = [] → ma = none ∧ mc = 0) ∧ Ints B wx ma (Pt g).length fun i => ((Pt g).getD i 0 : Nat))) (hB : B ≤ wx.heap.size)
    (hQ : Hid (∀ (y12 y36 y37 y38 y39 y40 y41 y42 y312 y313 y314 y315 y316 y317 y318 y319 y320 y321 y322 y323 y324 y325 y326 y327 y328 y329 y330 y331 y332 y333 y334 y335 y336 y337 y338 y339 y340 y341 y342 y343 y344 y345 y346 y347 y348 y349 y350 y351 y352 y353 y354 y355 y356 y357 y358 y359 y360 y361 y362 y363 y364 y365 y366 y367 y368 y369 y370 y371 y372 y373 y374 y375 y376 y377 y378 y379 y380 y381 y382 y383 y384 y385 y386 y387 y388 y389 y390 y391 y392 y393 y394 y395 y396 y397 y398 y399 y400 y401 y402 y403 y404 y405 y406 y407 y408 y409 y410 y411 y412 : Value) (w' : World), wx.grownBy w' none →
      K { tmps := #[x0, .slice a2 n c2, .slice a3 m c3, x3, .slice a5 n c5, x5, x6, x7, x8, x9, x10, x11, y12, x13, x14, .slice o1 T d1, .slice o2 T d2, x17, .slice o4 T d4, x19, x20, x21, x22, .slice fv c fc, x24, x25, x26, .int .i64 (c : Int), .slice (some ⟨bb, 0, none⟩) c c, x29, x30, x31, x32, x33, x34, x35, y36, y37, y38, y39, y40, y41, y42, x43, x44, x45, x46, x47, x48, x49, x50, x51, x52, x53, x54, x55, x56, x57, x58, x59, x60, x61, x62, x63, x64, x65, x66, x67, x68, x69, x70, x71, x72, x73, x74, x75, x76, x77, x78, x79, x80, x81, x82, x83, x84, x85, x86, x87, x88, x89, x90, x91, x92, x93, x94, x95, x96, x97, x98, x99, x100, x101, x102, x103, x104, x105, x106, x107, x108, x109, x110, x111, x112, x113, x114, x115, x116, x117, x118, x119, x120, x121, x122, x123, x124, x125, x126, x127, x128, x129, x130, x131, x132, x133, x134, x135, x136, x137, x138, x139, x140, x141, x142, x143, x144, x145, x146, x147, x148, x149, x150, x151, x152, x153, x154, x155, x156, x157, x158, x159, x160, x161, x162, x163, x164, x165, x166, x167, x168, x169, x170, x171, x172, x173, x174, x175, x176, x177, x178, x179, x180, x181, x182, x183, x184, x185, x186, x187, x188, x189, x190, x191, x192, x193, x194, x195, x196, x197, x198, x199, x200, x201, x202, x203, x204, x205, x206, x207, x208, x209, x210, x211, x212, x213, x214, x215, x216, x217, x218, x219, x220, x221, x222, x223, x224, x225, x226, x227, x228, x229, x230, x231, x232, x233, x234, x235, x236, x237, x238, x239, x240, x241, x242, x243, x244, x245, x246, x247, x248, x249, x250, x251, x252, x253, x254, x255, x256, x257, x258, x259, x260, x261, x262, x263, x264, x265, x266, x267, x268, x269, x270, x271, x272, x273, x274, x275, x276, x277, x278, x279, x280, x281, x282, x283, x284, x285, x286, x287, x288, x289, x290, x291, x292, x293, x294, x295, x296, x297, x298, x299, x300, x301, x302, x303, x304, x305, x306, x307, x308, x309, x310, x311, y312, y313, y314, y315, y316, y317, y318, y319, y320, y321, y322, y323, y324, y325, y326, y327, y328, y329, y330, y331, y332, y333, y334, y335, y336, y337, y338, y339, y340, y341, y342, y343, y344, y345, y346, y347, y348, y349, y350, y351, y352, y353, y354, y355, y356, y357, y358, y359, y360, y361, y362, y363, y364, y365, y366, y367, y368, y369, y370, y371, y372, y373, y374, y375, y376, y377, y378, y379, y380, y381, y382, y383, y384, y385, y386, y387, y388, y389, y390, y391, y392, y393, y394, y395, y396, y397, y398, y399, y400, y401, y402, y403, y404, y405, y406, y407, y408, y409, y410, y411, y412, x413, x414, x415, x416, x417, x418, x419, x420, x421, x422, x423, x424, x425, x426, x427, x428, x429, x430, x431, x432, x433, x434, x435, x436, x437, x438, x439, x440, x441, x442, x443, x444, x445, x446, x447, x448, x449, x450, x451, x452, x453, x454, x455, x456, x457, x458, x459, x460, x461, x462, x463, x464, x465, x466, x467, x468, x469, x470, x471, x472, x473, x474, x475, x476, x477, x478, x479, x480, x481, x482, x483, x484, x485, x486, x487], defers := [] } w')) :
    Code.wp Try.prog (nav [1, 1, 1, 1, 1, 1, 1, 1, 1, 1, 1, 1, 1, 1, 1, 1, 1, 1, 1, 1, 1, 1, 1, 1, 1, 1, 1, 0, 1] (Try.f5.body.getD .skip)) (Exit.then K fun _ _ _ => False) { tmps := #[x0, .slice a2 n c2, .slice a3 m c3, x3, .slice a5 n c5, x5, x6, x7, x8, x9, x10, x11, x12, x13, x14, .slice o1 T d1, .slice o2 T d2, x17, .slice o4 T d4, x19, x20, x21, x22, .slice fv c fc, x24, x25, x26, .int .i64 (c : Int), .slice (some ⟨bb, 0, none⟩) c c, x29, x30, x31, x32, x33, x34, x35, .int .i64 0, x37, x38, x39, x40, x41, x42, x43, x44, x45, x46, x47, x48, x49, x50, x51, x52, x53, x54, x55, x56, x57, x58, x59, x60, x61, x62, x63, x64, x65, x66, x67, x68, x69, x70, x71, x72, x73, x74, x75, x76, x77, x78, x79, x80, x81, x82, x83, x84, x85, x86, x87, x88, x89, x90, x91, x92, x93, x94, x95, x96, x97, x98, x99, x100, x101, x102, x103, x104, x105, x106, x107, x108, x109, x110, x111, x112, x113, x114, x115, x116, x117, x118, x119, x120, x121, x122, x123, x124, x125, x126, x127, x128, x129, x130, x131, x132, x133, x134, x135, x136, x137, x138, x139, x140, x141, x142, x143, x144, x145, x146, x147, x148, x149, x150, x151, x152, x153, x154, x155, x156, x157, x158, x159, x160, x161, x162, x163, x164, x165, x166, x167, x168, x169, x170, x171, x172, x173, x174, x175, x176, x177, x178, x179, x180, x181, x182, x183, x184, x185, x186, x187, x188, x189, x190, x191, x192, x193, x194, x195, x196, x197, x198, x199, x200, x201, x202, x203, x204, x205, x206, x207, x208, x209, x210, x211, x212, x213, x214, x215, x216, x217, x218, x219, x220, x221, x222, x223, x224, x225, x226, x227, x228, x229, x230, x231, x232, x233, x234, x235, x236, x237, x238, x239, x240, x241, x242, x243, x244, x245, x246, x247, x248, x249, x250, x251, x252, x253, x254, x255, x256, x257, x258, x259, x260, x261, x262, x263, x264, x265, x266, x267, x268, x269, x270, x271, x272, x273, x274, x275, x276, x277, x278, x279, x280, x281, x282, x283, x284, x285, x286, x287, x288, x289, x290, x291, x292, x293, x294, x295, x296, x297, x298, x299, x300, x301, x302, x303, x304, x305, x306, x307, x308, x309, x310, x311, x312, x313, x314, x315, x316, x317, x318, x319, x320, x321, x322, x323, x324, x325, x326, x327, x328, x329, x330, x331, x332, x333, x334, x335, x336, x337, x338, x339, x340, x341, x342, x343, x344, x345, x346, x347, x348, x349, x350, x351, x352, x353, x354, x355, x356, x357, x358, x359, x360, x361, x362, x363, x364, x365, x366, x367, x368, x369, x370, x371, x372, x373, x374, x375, x376, x377, x378, x379, x380, x381, x382, x383, x384, x385, x386, x387, x388, x389, x390, x391, x392, x393, x394, x395, x396, x397, x398, x399, x400, x401, x402, x403, x404, x405, x406, x407, x408, x409, x410, x411, x412, x413, x414, x415, x416, x417, x418, x419, x420, x421, x422, x423, x424, x425, x426, x427, x428, x429, x430, x431, x432, x433, x434, x435, x436, x437, x438, x439, x440, x441, x442, x443, x444, x445, x446, x447, x448, x449, x450, x451, x452, x453, x454, x455, x456, x457, x458, x459, x460, x461, x462, x463, x464, x465, x466, x467, x468, x469, x470, x471, x472, x473, x474, x475, x476, x477, x478, x479, x480, x481, x482, x483, x484, x485, x486, x487], defers := [] } wx := by
  have hnil := fun w a n c => run_neq_slice_nil_any (P := Try.prog) w 22 3 a n c 0 0 Try.underlying22
  have hnb := hin.out.nb
  have hcn : c ≤ n := by rw [hc.out]; exact fs_len n
  simp only [nav, Try.f5, Option.getD]
  go_wp2_with fail
  go_loopg [36] c (fun k v wr => ∃ g : Nat, v = .int .i64 (g : Int) ∧ g + k = c ∧ wx.grownBy wr none)
  case atStart => exact ⟨0, rfl, by omega, World.grownBy.refl _ _⟩
  case round =>
    obtain ⟨g, rfl, hgk, hgr⟩ := hrel
    obtain ⟨wo, rfl⟩ : ∃ wo, wo = wr := ⟨wr, rfl⟩
    have HG := hide hgr
    clear hgr
    by_cases hgc : g < c
    · have hgz : (g : Int) < (c : Int) := by omega
      have hgl : g < (fs key n).length := by rw [← hc.out]; exact hgc
      have hsz := HG.out.size
      have hB' : B ≤ wo.heap.size := by omega
      have mv : ∀ b, b < B → wo.heap[b]? = wx.heap[b]? := fun b hb => HG.out.block b (by omega) (by simp)
      have hI := hin.out.move mv
      obtain ⟨fb, fo, rfl, hfb, cf⟩ := (hfs.out.move mv) g hgc
      have hx : (fs key n)[g] < n := fs_lt (List.getElem_mem hgl)
      have hxg : (fs key n).getD g 0 = (fs key n)[g] := by simp [List.getD_eq_getElem?_getD, hgl]
      change _ = some (Value.int .i64 (((fs key n).getD g 0 : Nat) : Int)) at cf
      rw [hxg] at cf
      obtain ⟨x, hxe⟩ : ∃ x, (fs key n)[g] = x := ⟨_, rfl⟩
      have HKG : Hid (kAt key n g = key x) := by
        rw [← hxe]
        have := kAt_gi (key := key) hx
        rw [gi_first hgl] at this
        exact this
      have HSG : Hid (sG key ln n g = sU key ln x) := by rw [← hxe]; exact sG_fs hgl
      rw [hxe] at cf hx
      clear hxe hxg
      obtain ⟨i, hi, him⟩ := hI.nd x hx
      obtain ⟨nb, no, rfl, hnb', cn⟩ := hI.nodes x hx
      obtain ⟨ub, uo, rfl, hub, cu0, cu1⟩ := hI.units x hx
      dsimp only at cn cu0 cu1
      obtain ⟨b0, b1, b2, hkx⟩ : ∃ b0 b1 b2, key x = (b0, b1, b2) := ⟨_, _, _, rfl⟩
      have hb2 : b2 = (i : Int) := by rw [← hi, hkx]
      subst hb2
      rw [hkx] at cn cu0 cu1
      dsimp only at cn cu0 cu1
      have HSZ : Hid (sG key ln n g = szOf ln i) := by
        rw [HSG.out]
        unfold sU
        rw [hi]
        rfl
      have HLB := hI.lnb i him
      have hKg : KK g = (b0, b1, (i : Int)) := by rw [hP.out.K1 g hgl, HKG.out, hkx]
      have HUN : Hid (Units B wo o1 T (fun g => (KK g).1) fun g => (KK g).2.1) := huns.out.move mv
      have HNDS : Hid (Ints B wo o2 T fun g => (KK g).2.2) := hnds.out.move mv
      have HPR : Hid (∀ g, g < T → ∃ b o ma mc, o4 = some ⟨b, o, none⟩ ∧ b < B ∧ wo.cell? ⟨b, o + g, none⟩ = some (.slice ma (Pt g).length mc) ∧ (Pt g = [] → ma = none ∧ mc = 0) ∧ Ints B wo ma (Pt g).length fun i => ((Pt g).getD i 0 : Nat)) := fun g hg => by
        obtain ⟨b, o, ma, mc, e1, e2, e3, e4, e5⟩ := hpar.out g hg
        exact ⟨b, o, ma, mc, e1, e2, (World.cell?_of_block (mv b e2)).trans e3, e4, e5.move mv⟩
      have hcT : c ≤ T := by rw [hT.out, hc.out]; exact bG_ge _
      obtain ⟨s1, t1, rfl, hs1, gu0, gu1⟩ := HUN.out g (by omega)
      obtain ⟨s2, t2, rfl, hs2, gn⟩ := HNDS.out g (by omega)
      obtain ⟨s3, t3, ma, mc, rfl, hs3, gp, gpn, gpi⟩ := HPR.out g (by omega)
      obtain ⟨bb', bo', hbe, hbbB, cb⟩ := (hbi.out.move mv) g hgc
      cases hbe
      rw [Nat.zero_add] at cb
      dsimp only at gu0 gu1 gn cb
      rw [hKg] at gu0 gu1 gn
      dsimp only at gu0 gu1 gn
      have HPG : Hid (Pt g = List.range' (bG key ln n g) (sG key ln n g)) := by
        have := hP.out.P1 g hgl
        rw [if_pos hgl] at this
        exact this
      have hlen : (Pt g).length = szOf ln i := by rw [HPG.out, List.length_range', HSZ.out]
      rw [hlen] at gp gpi
      have HGPN := hide gpn
      have HGPI := hide gpi
      have HPC : Hid (∀ j, j < szOf ln i → ∀ pp, bG key ln n g + j = pp → (KK pp).1 = b0 ∧ (KK pp).2.1 = b1 ∧ (KK pp).2.2 = (i : Int) ∧ Pt pp = []) := fun j hj pp hpp => by
        have h1 := hP.out.K2 g j ⟨by rw [HSZ.out]; exact hj, hgl, .inl hgl⟩
        rw [HKG.out, hkx, hpp] at h1
        rw [h1]
        refine ⟨rfl, rfl, rfl, hP.out.P3 pp ?_⟩
        have := bG_ge (key := key) (ln := ln) (n := n) g
        omega
      have HPT : Hid (∀ j, j < szOf ln i → ∀ pp, bG key ln n g + j = pp → pp < T) := fun j hj pp hpp => by
        have h1 := bG_lt (key := key) (ln := ln) (n := n) hgl (k := j) (by rw [HSZ.out]; exact hj)
        rw [← hT.out] at h1
        omega
      have HVAL : Hid (∀ j, j < szOf ln i → (Pt g).getD j 0 = bG key ln n g + j) := fun j hj => by
        rw [HPG.out, List.getD_eq_getElem?_getD, List.getElem?_range' (by rw [HSZ.out]; exact hj)]
        simp
      have HBV : bG key ln n g ≤ 1048576 := by
        have h1 : bG key ln n g ≤ bG key ln n (fs key n).length := base_mono (Nat.le_of_lt hgl)
        rw [← hT.out] at h1
        omega
      have hgT : (g : Int) < (T : Int) := by omega
      have hxz : (x : Int) < (n : Int) := by omega
      have al : ∀ (o : Obj) (a : Addr) (v : Value), a.block < B → wo.cell? a = some v → (wo.alloc o).cell? a = some v := fun o a v h1 h2 => by
        rw [World.cell?_of_block (w := wo) (Below.heap_alloc _ _ _ (by omega))]; exact h2
      have AL := hide al
      have cf' := fun X => al X _ _ hfb cf
      have cn' := fun X => al X _ _ hnb' cn
      have gu0' := fun X => al X _ _ hs1 gu0
      have gu1' := fun X => al X _ _ hs1 gu1
      have gn' := fun X => al X _ _ hs2 gn
      have gp' := fun X => al X _ _ hs3 gp
      have cb' := fun X => al X _ _ hbbB cb
      have hcall : Calls Try.prog 19 #[.slice a3 m c3, .int .i64 (i : Int)] (wo.alloc (.cells #[.int .i64 b0, .int .i64 b1] 39)) fun e w' => e = .returned (.int .i64 (szOf ln i : Int)) ∧ w' = wo.alloc (.cells #[.int .i64 b0, .int .i64 b1] 39) := size_any (hI.sets.move (fun b hb => Below.heap_alloc _ _ _ (by omega))) him HLB
      clear hI mv hkx hi hKg hlen gpn gpi al cn gu0 gu1 gn gp cb
      have HSB : szOf ln i ≤ 1048576 := by
        unfold szOf
        split <;> omega
      generalize szOf ln i = z at *
      generalize bG key ln n g = bv at *
      go_wp2_with (go_at_call 19; fail)
      refine hcall.mono ?_
      rintro e2 w2 ⟨rfl, hw2⟩
      subst w2
      clear hcall
      have v0 : (wo.alloc (.cells #[.int .i64 b0, .int .i64 b1] 39)).cell? ⟨wo.heap.size, 0, none⟩ = some (.int .i64 b0) := cells_new wo #[.int .i64 b0, .int .i64 b1] 39 0 _ rfl
      have v1 : (wo.alloc (.cells #[.int .i64 b0, .int .i64 b1] 39)).cell? ⟨wo.heap.size, 1, none⟩ = some (.int .i64 b1) := cells_new wo #[.int .i64 b0, .int .i64 b1] 39 1 _ rfl
      have HGV : Hid (wx.grownBy (wo.alloc (.cells #[.int .i64 b0, .int .i64 b1] 39)) none) := grown_alloc HG.out _
      have HUN2 := hide (HUN.out.move (w' := wo.alloc (.cells #[.int .i64 b0, .int .i64 b1] 39)) (fun b hb => Below.heap_alloc _ _ _ (by omega)))
      have HNDS2 := hide (HNDS.out.move (w' := wo.alloc (.cells #[.int .i64 b0, .int .i64 b1] 39)) (fun b hb => Below.heap_alloc _ _ _ (by omega)))
      have HPR2 : Hid (∀ g, g < T → ∃ b o ma mc, some (⟨s3, t3, none⟩ : Addr) = some ⟨b, o, none⟩ ∧ b < B ∧ (wo.alloc (.cells #[.int .i64 b0, .int .i64 b1] 39)).cell? ⟨b, o + g, none⟩ = some (.slice ma (Pt g).length mc) ∧ (Pt g = [] → ma = none ∧ mc = 0) ∧ Ints B (wo.alloc (.cells #[.int .i64 b0, .int .i64 b1] 39)) ma (Pt g).length fun i => ((Pt g).getD i 0 : Nat)) := fun g hg => by
        obtain ⟨b, o, ma, mc, e1, e2, e3, e4, e5⟩ := HPR.out g hg
        exact ⟨b, o, ma, mc, e1, e2, AL.out _ _ _ e2 e3, e4, e5.move (fun b hb => Below.heap_alloc _ _ _ (by omega))⟩
      have HGPI2 := hide (HGPI.out.move (w' := wo.alloc (.cells #[.int .i64 b0, .int .i64 b1] 39)) (fun b hb => Below.heap_alloc _ _ _ (by omega)))
      have n0 := gn' (.cells #[.int .i64 b0, .int .i64 b1] 39)
      have u0 := gu0' (.cells #[.int .i64 b0, .int .i64 b1] 39)
      have u1 := gu1' (.cells #[.int .i64 b0, .int .i64 b1] 39)
      have p0 := gp' (.cells #[.int .i64 b0, .int .i64 b1] 39)
      have cb0 := cb' (.cells #[.int .i64 b0, .int .i64 b1] 39)
      have f39 : ∀ w, (binOp .neq 39 (.agg #[.int .i64 b0, .int .i64 b1]) (.agg #[.int .i64 b0, .int .i64 b1])).run Try.prog w = .ok (.bool false) w := fun w => by rw [neq39]; simp
      clear cf cf' cn' gu0' gu1' gn' gp' cb' HUN HNDS HPR HGPI AL cu0 cu1
      generalize (wo.alloc (.cells #[.int .i64 b0, .int .i64 b1] 39)) = wv at *
      generalize wo.heap.size = vb at *
      have HUN := HUN2
      have HNDS := HNDS2
      have HPR := HPR2
      clear HUN2 HNDS2 HPR2
      by_cases hz : z = 0
      · have hzb : ((z : Int) == 0) = true := by simp [hz]
        obtain ⟨rfl, rfl⟩ := HGPN.out (List.eq_nil_of_length_eq_zero (by rw [HPG.out, List.length_range', HSZ.out]; exact hz))
        clear hz
        go_wp2_with fail
        go_quiet (fail)
        go_wp2_with fail
        go_loopg [41] z (fun k v wr => ∃ j q : Nat, v = .int .i64 (j : Int) ∧ j + k = z ∧ wr = wv.drewN q)
        case atStart => exact ⟨0, _, rfl, by omega, rfl⟩
        case round =>
          obtain ⟨j, q9, rfl, hjk, hw⟩ := hrel
          subst wr
          by_cases hj : j < z
          · have hjz : (j : Int) < (z : Int) := by omega
            obtain ⟨pp, hpp⟩ : ∃ pp : Nat, bv + j = pp := ⟨_, rfl⟩
            have hpT : pp < T := HPT.out j hj pp hpp
            obtain ⟨r1, r2, r3, r4⟩ := HPC.out j hj pp hpp
            obtain ⟨s1, t1, hs1, _, ga0, ga1⟩ := HUN.out pp hpT
            cases hs1
            obtain ⟨s2, t2, hs2, _, gan⟩ := HNDS.out pp hpT
            cases hs2
            obtain ⟨s3, t3, qa, qc, hs3, _, gap, gapn, _⟩ := HPR.out pp hpT
            cases hs3
            obtain ⟨rfl, rfl⟩ := gapn r4
            dsimp only at ga0 ga1 gan
            rw [r1] at ga0
            rw [r2] at ga1
            rw [r3] at gan
            rw [r4] at gap
            have hpz : (bv : Int) + (j : Int) < (T : Int) := by omega
            obtain rfl := hpp
            clear r1 r2 r3 r4 gapn
            simp only [List.length_nil] at gap
            go_wp2_with fail
            go_quiet (fail)
            go_wp2_with fail
            go_roundg (z - (j + 1))
            case measure => omega
            case rel => exact ⟨j + 1, _, by simp, by omega, rfl⟩
          · have hjz : ¬ ((j : Int) < (z : Int)) := by omega
            go_wp2_with fail
            go_roundg (c - (g + 1))
            case measure => omega
            case rel => exact ⟨g + 1, by simp, by omega, grown_drewN HGV.out q9⟩
      · have hzz : ¬ ((z : Int) = 0) := by omega
        have hzb : ((z : Int) == 0) = false := by simp; omega
        go_wp2_with fail
        go_quiet (fail)
        go_wp2_with fail
        go_loopg [40] z (fun k v wr => ∃ j q : Nat, v = .int .i64 (j : Int) ∧ j + k = z ∧ wr = wv.drewN q)
        case atStart => exact ⟨0, _, rfl, by omega, rfl⟩
        case round =>
          obtain ⟨j, q8, rfl, hjk, hw⟩ := hrel
          subst wr
          by_cases hj : j < z
          · have hjz : (j : Int) < (z : Int) := by omega
            obtain ⟨b5, p5, rfl, _, c5⟩ := HGPI2.out j hj
            change _ = some (Value.int .i64 (((Pt g).getD j 0 : Nat) : Int)) at c5
            rw [HVAL.out j hj, show ((bv + j : Nat) : Int) = (bv : Int) + (j : Int) by simp] at c5
            go_wp2_with fail
            go_quiet (fail)
            go_wp2_with fail
            go_roundg (z - (j + 1))
            case measure => omega
            case rel => exact ⟨j + 1, _, by simp, by omega, rfl⟩
          · have hjz : ¬ ((j : Int) < (z : Int)) := by omega
            go_wp2_with fail
            go_loopg [41] z (fun k v wr => ∃ j q : Nat, v = .int .i64 (j : Int) ∧ j + k = z ∧ wr = wv.drewN q)
            case atStart => exact ⟨0, _, rfl, by omega, rfl⟩
            case round =>
              obtain ⟨j, q9, rfl, hjk, hw⟩ := hrel
              subst wr
              by_cases hj : j < z
              · have hjz : (j : Int) < (z : Int) := by omega
                obtain ⟨pp, hpp⟩ : ∃ pp : Nat, bv + j = pp := ⟨_, rfl⟩
                have hpT : pp < T := HPT.out j hj pp hpp
                obtain ⟨r1, r2, r3, r4⟩ := HPC.out j hj pp hpp
                obtain ⟨s1, t1, hs1, _, ga0, ga1⟩ := HUN.out pp hpT
                cases hs1
                obtain ⟨s2, t2, hs2, _, gan⟩ := HNDS.out pp hpT
                cases hs2
                obtain ⟨s3, t3, qa, qc, hs3, _, gap, gapn, _⟩ := HPR.out pp hpT
                cases hs3
                obtain ⟨rfl, rfl⟩ := gapn r4
                dsimp only at ga0 ga1 gan
                rw [r1] at ga0
                rw [r2] at ga1
                rw [r3] at gan
                rw [r4] at gap
                have hpz : (bv : Int) + (j : Int) < (T : Int) := by omega
                obtain rfl := hpp
                clear r1 r2 r3 r4 gapn
                simp only [List.length_nil] at gap
                go_wp2_with fail
                go_quiet (fail)
                go_wp2_with fail
                go_roundg (z - (j + 1))
                case measure => omega
                case rel => exact ⟨j + 1, _, by simp, by omega, rfl⟩
              · have hjz : ¬ ((j : Int) < (z : Int)) := by omega
                go_wp2_with fail
                go_roundg (c - (g + 1))
                case measure => omega
                case rel => exact ⟨g + 1, by simp, by omega, grown_drewN HGV.out q9⟩
    · have hgz : ¬ ((g : Int) < (c : Int)) := by omega
      go_wp2_with fail
      exact hQ.out _ _ _ _ _ _ _ _ _ _ _ _ _ _ _ _ _ _ _ _ _ _ _ _ _ _ _ _ _ _ _ _ _ _ _ _ _ _ _ _ _ _ _ _ _ _ _ _ _ _ _ _ _ _ _ _ _ _ _ _ _ _ _ _ _ _ _ _ _ _ _ _ _ _ _ _ _ _ _ _ _ _ _ _ _ _ _ _ _ _ _ _ _ _ _ _ _ _ _ _ _ _ _ _ _ _ _ _ _ _ HG.out
end Go.Proofs.Qxb6603801a
