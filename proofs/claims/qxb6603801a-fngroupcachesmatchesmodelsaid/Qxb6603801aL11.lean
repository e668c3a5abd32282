import Derived.Test.Qxb6603801aEq
import Derived.Test.Qxb6603801aIo
import Derived.Test.Qxb6603801aEg
import Derived.Test.Qxb6603801aNav
import Derived.Deep.DeepCutAuto
import Derived.Deep.LoopGhost
import Derived.BigQuiet
namespace Go.Proofs.Qxb6603801a
open Go.RowKit

set_option maxRecDepth 100000 in
set_option maxHeartbeats 20000000 in
theorem l11 {x0 x1 x2 x3 x4 x5 x6 x7 x8 x9 x10 x11 x12 x13 x14 x15 x16 x18 x19 x20 x21 x22 x23 x24 x25 x26 x27 x28 x29 x30 x32 x33 x34 x35 x36 x37 x38 x39 x40 x41 x42 x43 x46 x47 x48 x49 x50 x51 x52 x53 x54 x55 x56 x57 x58 x59 x60 x61 x62 x63 x64 x65 x66 x67 x68 x69 x70 x71 x72 x73 x74 x75 x76 x77 x78 x79 x80 x81 x82 x83 x84 x85 x86 x87 x88 x89 x90 x91 x92 x93 x94 x95 x96 x97 x98 x99 x100 x101 x102 x103 x104 x105 x106 x107 x108 x109 x110 x111 x112 x113 x114 x115 x116 x117 x118 x119 x120 x121 x122 x123 x124 x125 x126 x127 x128 x129 x130 x131 x132 x133 x134 x135 x136 x137 x138 x139 x140 x141 x142 x143 x144 x145 x146 x147 x148 x149 x150 x151 x152 x153 x154 x155 x156 x157 x158 x159 x160 x161 x162 x163 x164 x165 x166 x167 x168 x169 x170 x171 x172 x173 x174 x175 x176 x177 x178 x179 x180 x181 x182 x183 x184 x185 x186 x187 x188 x189 x190 x191 x192 x193 x194 x195 x196 x197 x198 x199 x200 x201 x202 x203 x204 x205 x206 x207 x208 x209 x210 x211 x212 x213 x214 x215 x216 x217 x218 x219 x220 x221 x222 x223 x224 x225 x226 x227 x228 x229 x230 x231 x232 x233 x234 x235 x236 x237 x238 x239 x240 x241 x242 x243 x244 x245 x246 x247 x248 x249 x250 x251 x252 x253 x254 x255 x256 x257 x258 x259 x260 x261 x262 x263 x264 x265 x266 x267 x268 x269 x270 x271 x272 x273 x274 x275 x276 x277 x278 x279 x280 x281 x282 x283 x284 x285 x286 x287 x288 x289 x290 x291 x292 x293 x294 x295 x296 x297 x298 x299 x300 x301 x302 x303 x304 x305 x306 x307 x308 x309 x310 x311 x312 x313 x314 x315 x316 x317 x318 x319 x320 x321 x322 x323 x324 x325 x326 x327 x328 x329 x330 x331 x332 x333 x334 x335 x336 x337 x338 x339 x340 x341 x342 x343 x344 x345 x346 x347 x348 x349 x350 x351 x352 x353 x354 x355 x356 x357 x358 x359 x360 x361 x362 x363 x364 x365 x366 x367 x368 x369 x370 x371 x372 x373 x374 x375 x376 x377 x378 x379 x380 x381 x382 x383 x384 x385 x386 x387 x388 x389 x390 x391 x392 x393 x394 x395 x396 x397 x398 x399 x400 x401 x402 x403 x404 x405 x406 x407 x408 x409 x410 x411 x412 x413 x414 x415 x416 x417 x418 x419 x420 x421 x422 x423 x424 x425 x426 x427 x428 x429 x430 x431 x432 x433 x434 x435 x436 x437 x438 x439 x440 x441 x442 x443 x444 x445 x446 x447 x448 x449 x450 x451 x452 x453 x454 x455 x456 x457 x458 x459 x460 x461 x462 x463 x464 x465 x466 x467 x468 x469 x470 x471 x472 x473 x474 x475 x476 x477 x478 x479 x480 x481 x482 x483 x484 x485 x486 x487 : Value} {K : Act → World → Prop} {B N T d3 ec qb : Nat} {o3 ea : Option Addr} {M : Nat → List Nat} {e : Nat → Int} {wE wx : World}
    (heg : Hid (Ints B wx ea N e)) (hmm : Hid (∀ g, g < T → ∃ b o ma mc, o3 = some ⟨b, o, none⟩ ∧ b < B ∧ wx.cell? ⟨b, o + g, none⟩ = some (.slice ma (M g).length mc) ∧ Ints B wx ma (M g).length fun i => ((M g).getD i 0 : Nat))) (hnat : Hid (∀ i, i < N → ∃ g : Nat, e i = (g : Int) ∧ g < T)) (hM : Hid (∀ g, g < T → M g = (List.range N).filter fun m => decide (e m = (g : Int)))) (hNb : N ≤ 1048576) (hB : B ≤ wE.heap.size) (hqb : wE.heap.size ≤ qb) (hg : Hid (wE.grownBy wx none)) (hg0 : Hid (wE.grownBy wx none)) (hx : Hid (wx.ownsRow wE.heap.size 3 1 (.slice (some ⟨qb, 0, none⟩) T T) T (ivals T fun g => (cntE e 0 g : Int))))
    (hQ : Hid (∀ (y12 y45 y46 y433 y434 y435 y436 y437 y438 y439 y440 y441 y442 y443 y444 y445 y446 y447 y448 y449 y450 y451 y452 y453 y454 y455 y456 y457 y458 y459 y460 y461 y462 y463 y464 y465 y466 y467 y468 y469 y470 y471 y472 : Value) (w' : World), wE.grownBy w' none → w'.ownsRow wE.heap.size 3 1 (.slice (some ⟨qb, 0, none⟩) T T) T (ivals T fun g => (cntE e N g : Int)) →
      K { tmps := #[x0, x1, x2, x3, x4, x5, x6, x7, x8, x9, x10, x11, y12, x13, x14, x15, x16, .slice o3 T d3, x18, x19, x20, x21, x22, x23, x24, x25, x26, x27, x28, x29, x30, .slice ea N ec, x32, x33, x34, x35, x36, x37, x38, x39, x40, x41, x42, x43, .slice (some ⟨qb, 0, none⟩) T T, y45, y46, x47, x48, x49, x50, x51, x52, x53, x54, x55, x56, x57, x58, x59, x60, x61, x62, x63, x64, x65, x66, x67, x68, x69, x70, x71, x72, x73, x74, x75, x76, x77, x78, x79, x80, x81, x82, x83, x84, x85, x86, x87, x88, x89, x90, x91, x92, x93, x94, x95, x96, x97, x98, x99, x100, x101, x102, x103, x104, x105, x106, x107, x108, x109, x110, x111, x112, x113, x114, x115, x116, x117, x118, x119, x120, x121, x122, x123, x124, x125, x126, x127, x128, x129, x130, x131, x132, x133, x134, x135, x136, x137, x138, x139, x140, x141, x142, x143, x144, x145, x146, x147, x148, x149, x150, x151, x152, x153, x154, x155, x156, x157, x158, x159, x160, x161, x162, x163, x164, x165, x166, x167, x168, x169, x170, x171, x172, x173, x174, x175, x176, x177, x178, x179, x180, x181, x182, x183, x184, x185, x186, x187, x188, x189, x190, x191, x192, x193, x194, x195, x196, x197, x198, x199, x200, x201, x202, x203, x204, x205, x206, x207, x208, x209, x210, x211, x212, x213, x214, x215, x216, x217, x218, x219, x220, x221, x222, x223, x224, x225, x226, x227, x228, x229, x230, x231, x232, x233, x234, x235, x236, x237, x238, x239, x240, x241, x242, x243, x244, x245, x246, x247, x248, x249, x250, x251, x252, x253, x254, x255, x256, x257, x258, x259, x260, x261, x262, x263, x264, x265, x266, x267, x268, x269, x270, x271, x272, x273, x274, x275, x276, x277, x278, x279, x280, x281, x282, x283, x284, x285, x286, x287, x288, x289, x290, x291, x292, x293, x294, x295, x296, x297, x298, x299, x300, x301, x302, x303, x304, x305, x306, x307, x308, x309, x310, x311, x312, x313, x314, x315, x316, x317, x318, x319, x320, x321, x322, x323, x324, x325, x326, x327, x328, x329, x330, x331, x332, x333, x334, x335, x336, x337, x338, x339, x340, x341, x342, x343, x344, x345, x346, x347, x348, x349, x350, x351, x352, x353, x354, x355, x356, x357, x358, x359, x360, x361, x362, x363, x364, x365, x366, x367, x368, x369, x370, x371, x372, x373, x374, x375, x376, x377, x378, x379, x380, x381, x382, x383, x384, x385, x386, x387, x388, x389, x390, x391, x392, x393, x394, x395, x396, x397, x398, x399, x400, x401, x402, x403, x404, x405, x406, x407, x408, x409, x410, x411, x412, x413, x414, x415, x416, x417, x418, x419, x420, x421, x422, x423, x424, x425, x426, x427, x428, x429, x430, x431, x432, y433, y434, y435, y436, y437, y438, y439, y440, y441, y442, y443, y444, y445, y446, y447, y448, y449, y450, y451, y452, y453, y454, y455, y456, y457, y458, y459, y460, y461, y462, y463, y464, y465, y466, y467, y468, y469, y470, y471, y472, x473, x474, x475, x476, x477, x478, x479, x480, x481, x482, x483, x484, x485, x486, x487], defers := [] } w')) :
    Code.wp Try.prog (nav [1, 1, 1, 1, 1, 1, 1, 1, 1, 1, 1, 1, 1, 1, 1, 1, 1, 1, 1, 1, 1, 1, 1, 1, 1, 1, 1, 1, 1, 1, 0, 1] (Try.f5.body.getD .skip)) (Exit.then K fun _ _ _ => False) { tmps := #[x0, x1, x2, x3, x4, x5, x6, x7, x8, x9, x10, x11, x12, x13, x14, x15, x16, .slice o3 T d3, x18, x19, x20, x21, x22, x23, x24, x25, x26, x27, x28, x29, x30, .slice ea N ec, x32, x33, x34, x35, x36, x37, x38, x39, x40, x41, x42, x43, .slice (some ⟨qb, 0, none⟩) T T, .int .i64 0, x46, x47, x48, x49, x50, x51, x52, x53, x54, x55, x56, x57, x58, x59, x60, x61, x62, x63, x64, x65, x66, x67, x68, x69, x70, x71, x72, x73, x74, x75, x76, x77, x78, x79, x80, x81, x82, x83, x84, x85, x86, x87, x88, x89, x90, x91, x92, x93, x94, x95, x96, x97, x98, x99, x100, x101, x102, x103, x104, x105, x106, x107, x108, x109, x110, x111, x112, x113, x114, x115, x116, x117, x118, x119, x120, x121, x122, x123, x124, x125, x126, x127, x128, x129, x130, x131, x132, x133, x134, x135, x136, x137, x138, x139, x140, x141, x142, x143, x144, x145, x146, x147, x148, x149, x150, x151, x152, x153, x154, x155, x156, x157, x158, x159, x160, x161, x162, x163, x164, x165, x166, x167, x168, x169, x170, x171, x172, x173, x174, x175, x176, x177, x178, x179, x180, x181, x182, x183, x184, x185, x186, x187, x188, x189, x190, x191, x192, x193, x194, x195, x196, x197, x198, x199, x200, x201, x202, x203, x204, x205, x206, x207, x208, x209, x210, x211, x212, x213, x214, x215, x216, x217, x218, x219, x220, x221, x222, x223, x224, x225, x226, x227, x228, x229, x230, x231, x232, x233, x234, x235, x236, x237, x238, x239, x240, x241, x242, x243, x244, x245, x246, x247, x248, x249, x250, x251, x252, x253, x254, x255, x256, x257, x258, x259, x260, x261, x262, x263, x264, x265, x266, x267, x268, x269, x270, x271, x272, x273, x274, x275, x276, x277, x278, x279, x280, x281, x282, x283, x284, x285, x286, x287, x288, x289, x290, x291, x292, x293, x294, x295, x296, x297, x298, x299, x300, x301, x302, x303, x304, x305, x306, x307, x308, x309, x310, x311, x312, x313, x314, x315, x316, x317, x318, x319, x320, x321, x322, x323, x324, x325, x326, x327, x328, x329, x330, x331, x332, x333, x334, x335, x336, x337, x338, x339, x340, x341, x342, x343, x344, x345, x346, x347, x348, x349, x350, x351, x352, x353, x354, x355, x356, x357, x358, x359, x360, x361, x362, x363, x364, x365, x366, x367, x368, x369, x370, x371, x372, x373, x374, x375, x376, x377, x378, x379, x380, x381, x382, x383, x384, x385, x386, x387, x388, x389, x390, x391, x392, x393, x394, x395, x396, x397, x398, x399, x400, x401, x402, x403, x404, x405, x406, x407, x408, x409, x410, x411, x412, x413, x414, x415, x416, x417, x418, x419, x420, x421, x422, x423, x424, x425, x426, x427, x428, x429, x430, x431, x432, x433, x434, x435, x436, x437, x438, x439, x440, x441, x442, x443, x444, x445, x446, x447, x448, x449, x450, x451, x452, x453, x454, x455, x456, x457, x458, x459, x460, x461, x462, x463, x464, x465, x466, x467, x468, x469, x470, x471, x472, x473, x474, x475, x476, x477, x478, x479, x480, x481, x482, x483, x484, x485, x486, x487], defers := [] } wx := by
  simp only [nav, Try.f5, Option.getD]
  go_wp2_with fail
  go_loopg [45] N (fun k v wr => ∃ i : Nat, v = .int .i64 (i : Int) ∧ i + k = N ∧ wE.grownBy wr none ∧ wr.ownsRow wE.heap.size 3 1 (.slice (some ⟨qb, 0, none⟩) T T) T (ivals T fun g => (cntE e i g : Int)))
  case atStart => exact ⟨0, rfl, by omega, hg.out, hx.out⟩
  case round =>
    obtain ⟨i, rfl, hik, hgr, ho⟩ := hrel
    have HG := hide hgr
    have HO := hide ho
    clear hgr ho hg hx
    by_cases hi : i < N
    · have hiz : (i : Int) < (N : Int) := by omega
      have mv : ∀ b, b < B → wr.heap[b]? = wx.heap[b]? := fun b hb => (HG.out.block b (by omega) (by simp)).trans (hg0.out.block b (by omega) (by simp)).symm
      obtain ⟨g, hge, hgT⟩ := hnat.out i hi
      obtain ⟨b1, p1, rfl, _, c1⟩ := (heg.out.move mv) i hi
      rw [hge] at c1
      obtain ⟨b2, p2, ma, mc, rfl, hb2, c2, hmi⟩ := hmm.out g hgT
      have c2' : wr.cell? ⟨b2, p2 + g, none⟩ = some (.slice ma (M g).length mc) := (World.cell?_of_block (mv b2 hb2)).trans c2
      have hat : (M g)[cntE e i g]? = some i := by
        rw [hM.out g hgT]
        exact filt_at (by simp [hge]) hi
      have hlt : cntE e i g < (M g).length := (List.getElem?_eq_some_iff.1 hat).1
      obtain ⟨b3, p3, rfl, _, c3⟩ := (hmi.move mv) (cntE e i g) hlt
      have c3' : wr.cell? ⟨b3, p3 + cntE e i g, none⟩ = some (.int .i64 (i : Int)) := by
        rw [c3]
        simp [List.getD_eq_getElem?_getD, hat]
      have c4 : wr.cell? ⟨qb, g, none⟩ = some (.int .i64 (cntE e i g : Int)) := by rw [HO.out.cellAt g (by omega)]; exact ivals_at hgT
      have c5 : wr.frozen? ⟨qb, g, none⟩ = false := HO.out.frozenAt g
      have HGE := hide hge
      have HLN : cntE e i g ≤ i := by
        unfold cntE
        exact Nat.le_trans (List.length_filter_le _ _) (by simp)
      clear mv c2 hmi c3 hat hge
      obtain ⟨x, hxe⟩ : ∃ x, cntE e i g = x := ⟨_, rfl⟩
      have HXE := hide hxe
      rw [hxe] at c3' c4 hlt HLN
      clear hxe
      generalize (M g).length = L at *
      have hgz : (g : Int) < (T : Int) := by omega
      have hxL : (x : Int) < (L : Int) := by omega
      have hd : decide ((L : Int) ≤ (x : Int)) = false := by simp; omega
      go_wp2_with fail
      go_quiet (fail)
      go_wp2_with fail
      go_roundg (N - (i + 1))
      case measure => omega
      case rel =>
        refine ⟨i + 1, by simp, by omega, grown_set (grown_drewN HG.out _) hqb _, ?_⟩
        have h := own_set (w := wr.drewN nq) (own_move HO.out fun _ _ => rfl) g ((x : Int) + 1)
        rw [ivals_congr (g := fun g' => (cntE e (i + 1) g' : Int)) (fun j hj => ?_)] at h
        · exact h
        · unfold updN
          rw [cntE_succ, HGE.out]
          by_cases e' : j = g
          · subst e'
            rw [if_pos rfl, if_pos rfl, HXE.out]
            simp
          · rw [if_neg e', if_neg (by omega)]
            simp
    · have hiz : ¬ ((i : Int) < (N : Int)) := by omega
      obtain rfl : i = N := by omega
      go_wp2_with fail
      exact hQ.out _ _ _ _ _ _ _ _ _ _ _ _ _ _ _ _ _ _ _ _ _ _ _ _ _ _ _ _ _ _ _ _ _ _ _ _ _ _ _ _ _ _ _ _ HG.out HO.out
end Go.Proofs.Qxb6603801a
