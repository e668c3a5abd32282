import Derived.Test.Qxb6603801aEq
import Derived.Test.Qxb6603801aIo
import Derived.BigRegion
import Derived.Test.Qxb6603801aEg
import Derived.Test.Qxb6603801aNav
import Derived.Deep.DeepCutAuto
import Derived.Deep.LoopGhost
import Derived.BigQuiet
namespace Go.Proofs.Qxb6603801a
open Go.RowKit

set_option maxRecDepth 100000 in
set_option maxHeartbeats 20000000 in
theorem l4 {x0 x4 x5 x6 x7 x8 x9 x10 x11 x12 x13 x14 x15 x16 x17 x18 x19 x20 x23 x24 x25 x26 x27 x29 x30 x33 x34 x35 x36 x37 x38 x39 x40 x41 x42 x43 x44 x45 x46 x47 x48 x49 x50 x51 x52 x53 x54 x55 x56 x57 x58 x59 x60 x61 x62 x63 x64 x65 x66 x67 x68 x69 x70 x71 x72 x73 x74 x75 x76 x77 x78 x79 x80 x81 x82 x83 x84 x85 x86 x87 x88 x89 x90 x91 x92 x93 x94 x95 x96 x97 x98 x99 x100 x101 x102 x103 x104 x105 x106 x107 x108 x109 x110 x111 x112 x113 x114 x115 x116 x117 x118 x119 x120 x121 x122 x123 x124 x125 x126 x127 x128 x129 x130 x131 x132 x133 x134 x135 x136 x137 x138 x139 x140 x141 x142 x143 x144 x145 x146 x147 x148 x149 x150 x151 x152 x153 x154 x155 x156 x157 x158 x159 x160 x161 x162 x163 x164 x165 x166 x167 x168 x169 x170 x171 x172 x173 x174 x175 x176 x177 x178 x179 x180 x181 x182 x183 x184 x185 x186 x187 x188 x189 x190 x191 x192 x193 x194 x195 x196 x197 x198 x199 x200 x201 x202 x203 x204 x205 x206 x207 x208 x209 x210 x211 x212 x213 x214 x215 x216 x217 x218 x219 x220 x221 x222 x223 x224 x225 x226 x227 x228 x229 x230 x231 x232 x233 x234 x235 x236 x237 x238 x239 x240 x241 x242 x243 x244 x245 x246 x247 x248 x249 x250 x251 x252 x253 x254 x255 x256 x257 x258 x259 x260 x261 x262 x263 x264 x265 x266 x267 x268 x269 x270 x271 x272 x273 x274 x275 x276 x277 x278 x279 x280 x281 x282 x283 x284 x285 x286 x287 x288 x289 x290 x291 x292 x293 x294 x295 x296 x297 x298 x299 x300 x301 x302 x303 x304 x305 x306 x307 x308 x309 x310 x311 x312 x313 x314 x315 x316 x317 x318 x319 x320 x321 x322 x323 x324 x325 x326 x327 x328 x329 x330 x331 x332 x333 x334 x335 x336 x337 x338 x339 x340 x341 x342 x343 x344 x345 x346 x347 x348 x349 x350 x351 x352 x353 x354 x355 x356 x357 x358 x359 x360 x361 x362 x363 x364 x365 x366 x367 x368 x369 x370 x371 x372 x373 x374 x375 x376 x377 x378 x379 x380 x381 x382 x383 x384 x385 x386 x387 x388 x389 x390 x391 x392 x393 x394 x395 x396 x397 x398 x399 x400 x401 x402 x403 x404 x405 x406 x407 x408 x409 x410 x411 x412 x413 x414 x415 x416 x417 x418 x419 x420 x421 x422 x423 x424 x425 x426 x427 x428 x429 x430 x431 x432 x433 x434 x435 x436 x437 x438 x439 x440 x441 x442 x443 x444 x445 x446 x447 x448 x449 x450 x451 x452 x453 x454 x455 x456 x457 x458 x459 x460 x461 x462 x463 x464 x465 x466 x467 x468 x469 x470 x471 x472 x473 x474 x475 x476 x477 x478 x479 x480 x481 x482 x483 x484 x485 x486 x487 : Value} {K : Act → World → Prop} {B n N c parts m fl xb bb eb c2 c3 c4 : Nat} {key : Nat → Key} {ln : Nat → Nat} {a2 a3 a4 a5 : Option Addr} {wE wx : World}
    (hin : Hid (Inp B wx n parts m fl key ln a2 a3 a4 a5)) (hN : Hid (N = n + parts)) (hc : Hid (c = (fs key n).length)) (hxi : Hid (Ints B wx (some ⟨xb, 0, none⟩) n fun u => (gi key u : Int))) (hbi : Hid (Ints B wx (some ⟨bb, 0, none⟩) c fun g => (bG key ln n g : Int))) (hB : B ≤ wE.heap.size) (heb : wE.heap.size ≤ eb) (hg : Hid (wE.grownBy wx none)) (hg0 : Hid (wE.grownBy wx none)) (hx : Hid (wx.ownsRow wE.heap.size 3 1 (.slice (some ⟨eb, 0, none⟩) N N) N (ivals N fun _ => 0)))
    (hQ : Hid (∀ (y32 y33 y34 y212 y213 y214 y215 y216 y217 y218 y219 y220 y221 y222 y223 y224 y225 y226 y227 y228 y229 y230 y231 y232 y233 y234 y235 y236 y237 y238 y239 y240 y241 y242 y243 y244 y245 y246 y247 y248 y249 y250 y251 y252 y253 : Value) (w' : World), wE.grownBy w' none → ∀ e : Nat → Int, w'.ownsRow wE.heap.size 3 1 (.slice (some ⟨eb, 0, none⟩) N N) N (ivals N e) → ER key ln n n n 0 e →
      K { tmps := #[x0, .slice a2 n c2, .slice a3 m c3, .slice a4 fl c4, x4, x5, x6, x7, x8, x9, x10, x11, x12, x13, x14, x15, x16, x17, x18, x19, x20, .int .i64 (n : Int), .slice (some ⟨xb, 0, none⟩) n n, x23, x24, x25, x26, x27, .slice (some ⟨bb, 0, none⟩) c c, x29, x30, .slice (some ⟨eb, 0, none⟩) N N, y32, y33, y34, x35, x36, x37, x38, x39, x40, x41, x42, x43, x44, x45, x46, x47, x48, x49, x50, x51, x52, x53, x54, x55, x56, x57, x58, x59, x60, x61, x62, x63, x64, x65, x66, x67, x68, x69, x70, x71, x72, x73, x74, x75, x76, x77, x78, x79, x80, x81, x82, x83, x84, x85, x86, x87, x88, x89, x90, x91, x92, x93, x94, x95, x96, x97, x98, x99, x100, x101, x102, x103, x104, x105, x106, x107, x108, x109, x110, x111, x112, x113, x114, x115, x116, x117, x118, x119, x120, x121, x122, x123, x124, x125, x126, x127, x128, x129, x130, x131, x132, x133, x134, x135, x136, x137, x138, x139, x140, x141, x142, x143, x144, x145, x146, x147, x148, x149, x150, x151, x152, x153, x154, x155, x156, x157, x158, x159, x160, x161, x162, x163, x164, x165, x166, x167, x168, x169, x170, x171, x172, x173, x174, x175, x176, x177, x178, x179, x180, x181, x182, x183, x184, x185, x186, x187, x188, x189, x190, x191, x192, x193, x194, x195, x196, x197, x198, x199, x200, x201, x202, x203, x204, x205, x206, x207, x208, x209, x210, x211, y212, y213, y214, y215, y216, y217, y218, y219, y220, y221, y222, y223, y224, y225, y226, y227, y228, y229, y230, y231, y232, y233, y234, y235, y236, y237, y238, y239, y240, y241, y242, y243, y244, y245, y246, y247, y248, y249, y250, y251, y252, y253, x254, x255, x256, x257, x258, x259, x260, x261, x262, x263, x264, x265, x266, x267, x268, x269, x270, x271, x272, x273, x274, x275, x276, x277, x278, x279, x280, x281, x282, x283, x284, x285, x286, x287, x288, x289, x290, x291, x292, x293, x294, x295, x296, x297, x298, x299, x300, x301, x302, x303, x304, x305, x306, x307, x308, x309, x310, x311, x312, x313, x314, x315, x316, x317, x318, x319, x320, x321, x322, x323, x324, x325, x326, x327, x328, x329, x330, x331, x332, x333, x334, x335, x336, x337, x338, x339, x340, x341, x342, x343, x344, x345, x346, x347, x348, x349, x350, x351, x352, x353, x354, x355, x356, x357, x358, x359, x360, x361, x362, x363, x364, x365, x366, x367, x368, x369, x370, x371, x372, x373, x374, x375, x376, x377, x378, x379, x380, x381, x382, x383, x384, x385, x386, x387, x388, x389, x390, x391, x392, x393, x394, x395, x396, x397, x398, x399, x400, x401, x402, x403, x404, x405, x406, x407, x408, x409, x410, x411, x412, x413, x414, x415, x416, x417, x418, x419, x420, x421, x422, x423, x424, x425, x426, x427, x428, x429, x430, x431, x432, x433, x434, x435, x436, x437, x438, x439, x440, x441, x442, x443, x444, x445, x446, x447, x448, x449, x450, x451, x452, x453, x454, x455, x456, x457, x458, x459, x460, x461, x462, x463, x464, x465, x466, x467, x468, x469, x470, x471, x472, x473, x474, x475, x476, x477, x478, x479, x480, x481, x482, x483, x484, x485, x486, x487], defers := [] } w')) :
    Code.wp Try.prog (nav [1, 1, 1, 1, 1, 1, 1, 1, 1, 1, 1, 1, 1, 1, 1, 1, 1, 1, 1, 1, 1, 1, 0, 1] (Try.f5.body.getD .skip)) (Exit.then K fun _ _ _ => False) { tmps := #[x0, .slice a2 n c2, .slice a3 m c3, .slice a4 fl c4, x4, x5, x6, x7, x8, x9, x10, x11, x12, x13, x14, x15, x16, x17, x18, x19, x20, .int .i64 (n : Int), .slice (some ⟨xb, 0, none⟩) n n, x23, x24, x25, x26, x27, .slice (some ⟨bb, 0, none⟩) c c, x29, x30, .slice (some ⟨eb, 0, none⟩) N N, .int .i64 0, x33, x34, x35, x36, x37, x38, x39, x40, x41, x42, x43, x44, x45, x46, x47, x48, x49, x50, x51, x52, x53, x54, x55, x56, x57, x58, x59, x60, x61, x62, x63, x64, x65, x66, x67, x68, x69, x70, x71, x72, x73, x74, x75, x76, x77, x78, x79, x80, x81, x82, x83, x84, x85, x86, x87, x88, x89, x90, x91, x92, x93, x94, x95, x96, x97, x98, x99, x100, x101, x102, x103, x104, x105, x106, x107, x108, x109, x110, x111, x112, x113, x114, x115, x116, x117, x118, x119, x120, x121, x122, x123, x124, x125, x126, x127, x128, x129, x130, x131, x132, x133, x134, x135, x136, x137, x138, x139, x140, x141, x142, x143, x144, x145, x146, x147, x148, x149, x150, x151, x152, x153, x154, x155, x156, x157, x158, x159, x160, x161, x162, x163, x164, x165, x166, x167, x168, x169, x170, x171, x172, x173, x174, x175, x176, x177, x178, x179, x180, x181, x182, x183, x184, x185, x186, x187, x188, x189, x190, x191, x192, x193, x194, x195, x196, x197, x198, x199, x200, x201, x202, x203, x204, x205, x206, x207, x208, x209, x210, x211, x212, x213, x214, x215, x216, x217, x218, x219, x220, x221, x222, x223, x224, x225, x226, x227, x228, x229, x230, x231, x232, x233, x234, x235, x236, x237, x238, x239, x240, x241, x242, x243, x244, x245, x246, x247, x248, x249, x250, x251, x252, x253, x254, x255, x256, x257, x258, x259, x260, x261, x262, x263, x264, x265, x266, x267, x268, x269, x270, x271, x272, x273, x274, x275, x276, x277, x278, x279, x280, x281, x282, x283, x284, x285, x286, x287, x288, x289, x290, x291, x292, x293, x294, x295, x296, x297, x298, x299, x300, x301, x302, x303, x304, x305, x306, x307, x308, x309, x310, x311, x312, x313, x314, x315, x316, x317, x318, x319, x320, x321, x322, x323, x324, x325, x326, x327, x328, x329, x330, x331, x332, x333, x334, x335, x336, x337, x338, x339, x340, x341, x342, x343, x344, x345, x346, x347, x348, x349, x350, x351, x352, x353, x354, x355, x356, x357, x358, x359, x360, x361, x362, x363, x364, x365, x366, x367, x368, x369, x370, x371, x372, x373, x374, x375, x376, x377, x378, x379, x380, x381, x382, x383, x384, x385, x386, x387, x388, x389, x390, x391, x392, x393, x394, x395, x396, x397, x398, x399, x400, x401, x402, x403, x404, x405, x406, x407, x408, x409, x410, x411, x412, x413, x414, x415, x416, x417, x418, x419, x420, x421, x422, x423, x424, x425, x426, x427, x428, x429, x430, x431, x432, x433, x434, x435, x436, x437, x438, x439, x440, x441, x442, x443, x444, x445, x446, x447, x448, x449, x450, x451, x452, x453, x454, x455, x456, x457, x458, x459, x460, x461, x462, x463, x464, x465, x466, x467, x468, x469, x470, x471, x472, x473, x474, x475, x476, x477, x478, x479, x480, x481, x482, x483, x484, x485, x486, x487], defers := [] } wx := by
  have hnb := hin.out.nb
  have hpb := hin.out.pb
  have hNa : N ≤ n + parts := Nat.le_of_eq hN.out
  have hNb : n + parts ≤ N := Nat.le_of_eq hN.out.symm
  simp only [nav, Try.f5, Option.getD]
  go_wp2_with fail
  go_loopg [32] n (fun k v32 wr => ∃ u : Nat, v32 = .int .i64 (u : Int) ∧ u + k = n ∧ wE.grownBy wr none ∧ ∃ e : Nat → Int, wr.ownsRow wE.heap.size 3 1 (.slice (some ⟨eb, 0, none⟩) N N) N (ivals N e) ∧ ER key ln n u u 0 e)
  case atStart => exact ⟨0, rfl, by omega, hg.out, _, hx.out, ER.start⟩
  case round =>
    obtain ⟨u, rfl, huk, hgr, e, ho, hE⟩ := hrel
    obtain ⟨wo, rfl⟩ : ∃ wo, wo = wr := ⟨wr, rfl⟩
    have HG := hide hgr
    have HO := hide ho
    have HE := hide hE
    clear hgr ho hE hg hx
    by_cases hu : u < n
    · have huz : (u : Int) < (n : Int) := by omega
      have huN : (u : Int) < (N : Int) := by omega
      have mv : ∀ b, b < B → wo.heap[b]? = wx.heap[b]? := fun b hb => (HG.out.block b (by omega) (by simp)).trans (hg0.out.block b (by omega) (by simp)).symm
      have hI := hin.out.move mv
      have hX := hxi.out.move mv
      obtain ⟨xb', xo', hxe, hxB, cx⟩ := hX u hu
      cases hxe
      rw [Nat.zero_add] at cx
      dsimp only at cx
      obtain ⟨i, hi, him⟩ := hI.nd u hu
      obtain ⟨nb, no, rfl, _, cn⟩ := hI.nodes u hu
      have cn' : wo.cell? ⟨nb, no + u, none⟩ = some (.int .i64 (i : Int)) := by rw [cn]; show some (Value.int .i64 (key u).2.2) = _; rw [hi]
      have HSZ : Hid (sU key ln u = szOf ln i) := by
        unfold sU
        rw [hi]
        rfl
      have hcall : Calls Try.prog 19 #[.slice a3 m c3, .int .i64 (i : Int)] (wo.setCell ⟨eb, u, none⟩ (.int .i64 (gi key u : Int))) fun e w' => e = .returned (.int .i64 (szOf ln i : Int)) ∧ w' = wo.setCell ⟨eb, u, none⟩ (.int .i64 (gi key u : Int)) := size_any (hI.sets.move (fun b hb => Below.heap_setCell _ _ _ _ (by show b ≠ eb; omega))) him (hI.lnb i him)
      have c2' : wo.cell? ⟨eb, u, none⟩ = some (.int .i64 (e u)) := by rw [HO.out.cellAt u (by omega)]; exact ivals_at (by omega)
      have c3' : wo.frozen? ⟨eb, u, none⟩ = false := HO.out.frozenAt u
      have cn2 : (wo.setCell ⟨eb, u, none⟩ (.int .i64 (gi key u : Int))).cell? ⟨nb, no + u, none⟩ = some (.int .i64 (i : Int)) := by rw [World.cell?_of_block (w := wo) (Below.heap_setCell _ _ _ _ (by show nb ≠ eb; omega))]; exact cn'
      have HG2 : Hid (wE.grownBy (wo.setCell ⟨eb, u, none⟩ (.int .i64 (gi key u : Int))) none) := grown_set HG.out heb _
      have HO2 : Hid ((wo.setCell ⟨eb, u, none⟩ (.int .i64 (gi key u : Int))).ownsRow wE.heap.size 3 1 (.slice (some ⟨eb, 0, none⟩) N N) N (ivals N (updN e u (gi key u : Int)))) := own_set HO.out u _
      have HE2 : Hid (ER key ln n (u + 1) u 0 (updN e u (gi key u : Int))) := HE.out.setA hu
      have HLI : szOf ln i ≤ 1048576 := by
        have := hI.lnb i him
        unfold szOf
        split <;> omega
      clear hI hX cn hi mv cn'
      obtain ⟨z, hz⟩ : ∃ z, szOf ln i = z := ⟨_, rfl⟩
      have HZ := hide hz
      rw [hz] at hcall HLI
      clear hz
      go_wp2_with (go_at_call 19; fail)
      refine hcall.mono ?_
      rintro e' w2 ⟨rfl, hw2⟩
      subst w2
      clear hcall cx c2' c3' cn2
      generalize (wo.setCell ⟨eb, u, none⟩ (.int .i64 (gi key u : Int))) = w2 at *
      go_wp2_with fail
      go_loopg [34] z (fun k v34 wr => ∃ j : Nat, v34 = .int .i64 (j : Int) ∧ j + k = z ∧ wE.grownBy wr none ∧ ∃ e : Nat → Int, wr.ownsRow wE.heap.size 3 1 (.slice (some ⟨eb, 0, none⟩) N N) N (ivals N e) ∧ ER key ln n (u + 1) u j e)
      case atStart => exact ⟨0, rfl, by omega, HG2.out, _, HO2.out, HE2.out⟩
      case round =>
        obtain ⟨j, rfl, hjk, hgr, e2, ho, hE⟩ := hrel
        have HG3 := hide hgr
        have HO3 := hide ho
        have HE3 := hide hE
        clear hgr ho hE HG2 HO2 HE2 HG HO HE
        by_cases hj : j < z
        · have hjz : (j : Int) < (z : Int) := by omega
          have mv : ∀ b, b < B → wr.heap[b]? = wx.heap[b]? := fun b hb => (HG3.out.block b (by omega) (by simp)).trans (hg0.out.block b (by omega) (by simp)).symm
          have hI := hin.out.move mv
          have hX := hxi.out.move mv
          have hBs := hbi.out.move mv
          obtain ⟨xb', xo', hxe, hxB, cx⟩ := hX u hu
          cases hxe
          rw [Nat.zero_add] at cx
          have hgl : gi key u < c := by rw [hc.out]; exact gi_lt hu
          obtain ⟨bb', bo', hbe, hbB, cb⟩ := hBs (gi key u) hgl
          cases hbe
          rw [Nat.zero_add] at cb
          have hsu : j < sU key ln u := by rw [HSZ.out, HZ.out]; exact hj
          have hfl := fpU_lt (ln := ln) (key := key) hu hsu
          have hpr := hI.prts
          obtain ⟨hufl, fb, fo, rfl, hfB, cf⟩ := hI.first u hu (by omega)
          have hgb : bG key ln n (gi key u) + j < 1048576 := by
            have h1 := bG_lt (key := key) (ln := ln) (n := n) (gi_lt hu) (k := j) (by rw [sG_gi hu]; exact hsu)
            have h2 := bG_total (key := key) (ln := ln) (n := n)
            omega
          obtain ⟨mm, hmm⟩ : ∃ mm : Nat, n + fpU key ln u + j = mm := ⟨_, rfl⟩
          have hmN : mm < N := by omega
          have c2' : wr.cell? ⟨eb, mm, none⟩ = some (.int .i64 (e2 mm)) := by rw [HO3.out.cellAt mm (by omega)]; exact ivals_at hmN
          have c3' : wr.frozen? ⟨eb, mm, none⟩ = false := HO3.out.frozenAt mm
          have HE4 := hide (HE3.out.setB hu hsu)
          have HMM := hide hmm
          dsimp only at cx cb cf
          generalize hfx : fpU key ln u = fx at *
          have HFX := hide hfx
          generalize hbx : bG key ln n (gi key u) = bx at *
          have HBX := hide hbx
          generalize gi key u = gx at *
          have hgz : (gx : Int) < (c : Int) := by omega
          have huf : (u : Int) < (fl : Int) := by omega
          have hmz : (n : Int) + (fx : Int) + (j : Int) < (N : Int) := by omega
          clear hI hX hBs mv hpr hfx hbx hsu
          obtain rfl := hmm
          go_wp2_with fail
          go_region
          go_wp2_with fail
          go_roundg (z - (j + 1))
          case measure => omega
          case rel =>
            refine ⟨j + 1, by simp, by omega, grown_set (grown_drew HG3.out) heb _, _, own_set (own_move HO3.out fun _ _ => rfl) (n + fx + j) _, ?_⟩
            have h := HE4.out
            rw [show ((bx + j : Nat) : Int) = (bx : Int) + (j : Int) by simp] at h
            exact h
        · have hjz : ¬ ((j : Int) < (z : Int)) := by omega
          go_wp2_with fail
          go_roundg (n - (u + 1))
          case measure => omega
          case rel =>
            obtain rfl : j = z := by omega
            refine ⟨u + 1, by simp, by omega, HG3.out, _, HO3.out, ?_⟩
            have h := HE3.out
            rw [← HZ.out, ← HSZ.out] at h
            exact h.next
    · have huz : ¬ ((u : Int) < (n : Int)) := by omega
      obtain rfl : u = n := by omega
      go_wp2_with fail
      exact hQ.out _ _ _ _ _ _ _ _ _ _ _ _ _ _ _ _ _ _ _ _ _ _ _ _ _ _ _ _ _ _ _ _ _ _ _ _ _ _ _ _ _ _ _ _ _ _ HG.out e HO.out HE.out
end Go.Proofs.Qxb6603801a
