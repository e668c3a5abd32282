import Derived.Test.Qxb6603801aEq
import Derived.Test.Qxb6603801aIo
import Derived.Test.Qxb6603801aEg
import Derived.Test.Qxb6603801aNav
import Derived.Deep.DeepCutAuto
import Derived.Deep.LoopGhost
import Derived.BigQuiet
namespace Go.Proofs.Qxb6603801a
open Go.RowKit

/-- where a first place stands -/
theorem sG_fs {key : Nat → Key} {ln : Nat → Nat} {n g : Nat} (hg : g < (fs key n).length) : sG key ln n g = sU key ln ((fs key n)[g]) := by
  have hx : (fs key n)[g] < n := fs_lt (List.getElem_mem hg)
  have := sG_gi (ln := ln) (key := key) hx
  rw [gi_first hg] at this
  exact this

set_option maxRecDepth 100000 in
set_option maxHeartbeats 20000000 in
theorem l3 {x0 x3 x4 x5 x6 x7 x8 x9 x10 x11 x12 x13 x14 x15 x16 x17 x18 x19 x20 x21 x22 x24 x25 x26 x31 x32 x33 x34 x35 x36 x37 x38 x39 x40 x41 x42 x43 x44 x45 x46 x47 x48 x49 x50 x51 x52 x53 x54 x55 x56 x57 x58 x59 x60 x61 x62 x63 x64 x65 x66 x67 x68 x69 x70 x71 x72 x73 x74 x75 x76 x77 x78 x79 x80 x81 x82 x83 x84 x85 x86 x87 x88 x89 x90 x91 x92 x93 x94 x95 x96 x97 x98 x99 x100 x101 x102 x103 x104 x105 x106 x107 x108 x109 x110 x111 x112 x113 x114 x115 x116 x117 x118 x119 x120 x121 x122 x123 x124 x125 x126 x127 x128 x129 x130 x131 x132 x133 x134 x135 x136 x137 x138 x139 x140 x141 x142 x143 x144 x145 x146 x147 x148 x149 x150 x151 x152 x153 x154 x155 x156 x157 x158 x159 x160 x161 x162 x163 x164 x165 x166 x167 x168 x169 x170 x171 x172 x173 x174 x175 x176 x177 x178 x179 x180 x181 x182 x183 x184 x185 x186 x187 x188 x189 x190 x191 x192 x193 x194 x195 x196 x197 x198 x199 x200 x201 x202 x203 x204 x205 x206 x207 x208 x209 x210 x211 x212 x213 x214 x215 x216 x217 x218 x219 x220 x221 x222 x223 x224 x225 x226 x227 x228 x229 x230 x231 x232 x233 x234 x235 x236 x237 x238 x239 x240 x241 x242 x243 x244 x245 x246 x247 x248 x249 x250 x251 x252 x253 x254 x255 x256 x257 x258 x259 x260 x261 x262 x263 x264 x265 x266 x267 x268 x269 x270 x271 x272 x273 x274 x275 x276 x277 x278 x279 x280 x281 x282 x283 x284 x285 x286 x287 x288 x289 x290 x291 x292 x293 x294 x295 x296 x297 x298 x299 x300 x301 x302 x303 x304 x305 x306 x307 x308 x309 x310 x311 x312 x313 x314 x315 x316 x317 x318 x319 x320 x321 x322 x323 x324 x325 x326 x327 x328 x329 x330 x331 x332 x333 x334 x335 x336 x337 x338 x339 x340 x341 x342 x343 x344 x345 x346 x347 x348 x349 x350 x351 x352 x353 x354 x355 x356 x357 x358 x359 x360 x361 x362 x363 x364 x365 x366 x367 x368 x369 x370 x371 x372 x373 x374 x375 x376 x377 x378 x379 x380 x381 x382 x383 x384 x385 x386 x387 x388 x389 x390 x391 x392 x393 x394 x395 x396 x397 x398 x399 x400 x401 x402 x403 x404 x405 x406 x407 x408 x409 x410 x411 x412 x413 x414 x415 x416 x417 x418 x419 x420 x421 x422 x423 x424 x425 x426 x427 x428 x429 x430 x431 x432 x433 x434 x435 x436 x437 x438 x439 x440 x441 x442 x443 x444 x445 x446 x447 x448 x449 x450 x451 x452 x453 x454 x455 x456 x457 x458 x459 x460 x461 x462 x463 x464 x465 x466 x467 x468 x469 x470 x471 x472 x473 x474 x475 x476 x477 x478 x479 x480 x481 x482 x483 x484 x485 x486 x487 : Value} {K : Act → World → Prop} {B n parts m fl bb c2 c3 fc : Nat} {key : Nat → Key} {ln : Nat → Nat} {a2 a3 a4 a5 fv : Option Addr} {wE wx : World}
    (hin : Hid (Inp B wx n parts m fl key ln a2 a3 a4 a5)) (hfs : Hid (Ints B wx fv (fs key n).length fun i => ((fs key n).getD i 0 : Nat))) (hB : B ≤ wE.heap.size) (hbb : wE.heap.size ≤ bb) (hg : Hid (wE.grownBy wx none)) (hg0 : Hid (wE.grownBy wx none)) (hx : Hid (wx.ownsRow wE.heap.size 3 1 (.slice (some ⟨bb, 0, none⟩) (fs key n).length (fs key n).length) (fs key n).length (ivals (fs key n).length fun _ => 0)))
    (hQ : Hid (∀ (y30 y188 y189 y190 y191 y192 y193 y194 y195 y196 y197 y198 y199 y200 y201 y202 y203 y204 y205 y206 y207 : Value) (w' : World), wE.grownBy w' none → ∀ f : Nat → Int, w'.ownsRow wE.heap.size 3 1 (.slice (some ⟨bb, 0, none⟩) (fs key n).length (fs key n).length) (fs key n).length (ivals (fs key n).length f) → (∀ j, j < (fs key n).length → f j = (bG key ln n j : Int)) →
      K { tmps := #[x0, .slice a2 n c2, .slice a3 m c3, x3, x4, x5, x6, x7, x8, x9, x10, x11, x12, x13, x14, x15, x16, x17, x18, x19, x20, x21, x22, .slice fv (fs key n).length fc, x24, x25, x26, .int .i64 ((fs key n).length : Int), .slice (some ⟨bb, 0, none⟩) (fs key n).length (fs key n).length, .int .i64 (bG key ln n (fs key n).length : Int), y30, x31, x32, x33, x34, x35, x36, x37, x38, x39, x40, x41, x42, x43, x44, x45, x46, x47, x48, x49, x50, x51, x52, x53, x54, x55, x56, x57, x58, x59, x60, x61, x62, x63, x64, x65, x66, x67, x68, x69, x70, x71, x72, x73, x74, x75, x76, x77, x78, x79, x80, x81, x82, x83, x84, x85, x86, x87, x88, x89, x90, x91, x92, x93, x94, x95, x96, x97, x98, x99, x100, x101, x102, x103, x104, x105, x106, x107, x108, x109, x110, x111, x112, x113, x114, x115, x116, x117, x118, x119, x120, x121, x122, x123, x124, x125, x126, x127, x128, x129, x130, x131, x132, x133, x134, x135, x136, x137, x138, x139, x140, x141, x142, x143, x144, x145, x146, x147, x148, x149, x150, x151, x152, x153, x154, x155, x156, x157, x158, x159, x160, x161, x162, x163, x164, x165, x166, x167, x168, x169, x170, x171, x172, x173, x174, x175, x176, x177, x178, x179, x180, x181, x182, x183, x184, x185, x186, x187, y188, y189, y190, y191, y192, y193, y194, y195, y196, y197, y198, y199, y200, y201, y202, y203, y204, y205, y206, y207, x208, x209, x210, x211, x212, x213, x214, x215, x216, x217, x218, x219, x220, x221, x222, x223, x224, x225, x226, x227, x228, x229, x230, x231, x232, x233, x234, x235, x236, x237, x238, x239, x240, x241, x242, x243, x244, x245, x246, x247, x248, x249, x250, x251, x252, x253, x254, x255, x256, x257, x258, x259, x260, x261, x262, x263, x264, x265, x266, x267, x268, x269, x270, x271, x272, x273, x274, x275, x276, x277, x278, x279, x280, x281, x282, x283, x284, x285, x286, x287, x288, x289, x290, x291, x292, x293, x294, x295, x296, x297, x298, x299, x300, x301, x302, x303, x304, x305, x306, x307, x308, x309, x310, x311, x312, x313, x314, x315, x316, x317, x318, x319, x320, x321, x322, x323, x324, x325, x326, x327, x328, x329, x330, x331, x332, x333, x334, x335, x336, x337, x338, x339, x340, x341, x342, x343, x344, x345, x346, x347, x348, x349, x350, x351, x352, x353, x354, x355, x356, x357, x358, x359, x360, x361, x362, x363, x364, x365, x366, x367, x368, x369, x370, x371, x372, x373, x374, x375, x376, x377, x378, x379, x380, x381, x382, x383, x384, x385, x386, x387, x388, x389, x390, x391, x392, x393, x394, x395, x396, x397, x398, x399, x400, x401, x402, x403, x404, x405, x406, x407, x408, x409, x410, x411, x412, x413, x414, x415, x416, x417, x418, x419, x420, x421, x422, x423, x424, x425, x426, x427, x428, x429, x430, x431, x432, x433, x434, x435, x436, x437, x438, x439, x440, x441, x442, x443, x444, x445, x446, x447, x448, x449, x450, x451, x452, x453, x454, x455, x456, x457, x458, x459, x460, x461, x462, x463, x464, x465, x466, x467, x468, x469, x470, x471, x472, x473, x474, x475, x476, x477, x478, x479, x480, x481, x482, x483, x484, x485, x486, x487], defers := [] } w')) :
    Code.wp Try.prog (nav [1, 1, 1, 1, 1, 1, 1, 1, 1, 1, 1, 1, 1, 1, 1, 1, 1, 1, 1, 1, 0, 1] (Try.f5.body.getD .skip)) (Exit.then K fun _ _ _ => False) { tmps := #[x0, .slice a2 n c2, .slice a3 m c3, x3, x4, x5, x6, x7, x8, x9, x10, x11, x12, x13, x14, x15, x16, x17, x18, x19, x20, x21, x22, .slice fv (fs key n).length fc, x24, x25, x26, .int .i64 ((fs key n).length : Int), .slice (some ⟨bb, 0, none⟩) (fs key n).length (fs key n).length, .int .i64 ((fs key n).length : Int), .int .i64 0, x31, x32, x33, x34, x35, x36, x37, x38, x39, x40, x41, x42, x43, x44, x45, x46, x47, x48, x49, x50, x51, x52, x53, x54, x55, x56, x57, x58, x59, x60, x61, x62, x63, x64, x65, x66, x67, x68, x69, x70, x71, x72, x73, x74, x75, x76, x77, x78, x79, x80, x81, x82, x83, x84, x85, x86, x87, x88, x89, x90, x91, x92, x93, x94, x95, x96, x97, x98, x99, x100, x101, x102, x103, x104, x105, x106, x107, x108, x109, x110, x111, x112, x113, x114, x115, x116, x117, x118, x119, x120, x121, x122, x123, x124, x125, x126, x127, x128, x129, x130, x131, x132, x133, x134, x135, x136, x137, x138, x139, x140, x141, x142, x143, x144, x145, x146, x147, x148, x149, x150, x151, x152, x153, x154, x155, x156, x157, x158, x159, x160, x161, x162, x163, x164, x165, x166, x167, x168, x169, x170, x171, x172, x173, x174, x175, x176, x177, x178, x179, x180, x181, x182, x183, x184, x185, x186, x187, x188, x189, x190, x191, x192, x193, x194, x195, x196, x197, x198, x199, x200, x201, x202, x203, x204, x205, x206, x207, x208, x209, x210, x211, x212, x213, x214, x215, x216, x217, x218, x219, x220, x221, x222, x223, x224, x225, x226, x227, x228, x229, x230, x231, x232, x233, x234, x235, x236, x237, x238, x239, x240, x241, x242, x243, x244, x245, x246, x247, x248, x249, x250, x251, x252, x253, x254, x255, x256, x257, x258, x259, x260, x261, x262, x263, x264, x265, x266, x267, x268, x269, x270, x271, x272, x273, x274, x275, x276, x277, x278, x279, x280, x281, x282, x283, x284, x285, x286, x287, x288, x289, x290, x291, x292, x293, x294, x295, x296, x297, x298, x299, x300, x301, x302, x303, x304, x305, x306, x307, x308, x309, x310, x311, x312, x313, x314, x315, x316, x317, x318, x319, x320, x321, x322, x323, x324, x325, x326, x327, x328, x329, x330, x331, x332, x333, x334, x335, x336, x337, x338, x339, x340, x341, x342, x343, x344, x345, x346, x347, x348, x349, x350, x351, x352, x353, x354, x355, x356, x357, x358, x359, x360, x361, x362, x363, x364, x365, x366, x367, x368, x369, x370, x371, x372, x373, x374, x375, x376, x377, x378, x379, x380, x381, x382, x383, x384, x385, x386, x387, x388, x389, x390, x391, x392, x393, x394, x395, x396, x397, x398, x399, x400, x401, x402, x403, x404, x405, x406, x407, x408, x409, x410, x411, x412, x413, x414, x415, x416, x417, x418, x419, x420, x421, x422, x423, x424, x425, x426, x427, x428, x429, x430, x431, x432, x433, x434, x435, x436, x437, x438, x439, x440, x441, x442, x443, x444, x445, x446, x447, x448, x449, x450, x451, x452, x453, x454, x455, x456, x457, x458, x459, x460, x461, x462, x463, x464, x465, x466, x467, x468, x469, x470, x471, x472, x473, x474, x475, x476, x477, x478, x479, x480, x481, x482, x483, x484, x485, x486, x487], defers := [] } wx := by
  have hnb := hin.out.nb
  have hpr := hin.out.prts
  have hpb := hin.out.pb
  obtain ⟨c, hc⟩ : ∃ c, (fs key n).length = c := ⟨_, rfl⟩
  have HC := hide hc
  have hcn : c ≤ n := by rw [← hc]; exact fs_len n
  simp only [nav, Try.f5, Option.getD, hc]
  rw [hc] at hx hQ
  clear hc hpr
  go_wp2_with fail
  go_loopg [29, 30] c (fun k v29 v30 wr => ∃ g : Nat, v30 = .int .i64 (g : Int) ∧ g + k = c ∧ v29 = .int .i64 (bG key ln n g : Int) ∧ wE.grownBy wr none ∧ ∃ f : Nat → Int, wr.ownsRow wE.heap.size 3 1 (.slice (some ⟨bb, 0, none⟩) c c) c (ivals c f) ∧ ∀ j, j < g → f j = (bG key ln n j : Int))
  case atStart => exact ⟨0, rfl, by omega, by rw [bG_zero, HC.out], hg.out, _, hx.out, fun j hj => by omega⟩
  case round =>
    obtain ⟨g, rfl, hgk, rfl, hgr, f, ho, hfj⟩ := hrel
    have HG := hide hgr
    have HO := hide ho
    have HFJ := hide hfj
    clear hgr ho hfj hg hx
    by_cases hgc : g < c
    · have hgz : (g : Int) < (c : Int) := by omega
      have hgl : g < (fs key n).length := by rw [HC.out]; exact hgc
      have mv : ∀ b, b < B → wr.heap[b]? = wx.heap[b]? := fun b hb => (HG.out.block b (by omega) (by simp)).trans (hg0.out.block b (by omega) (by simp)).symm
      have hI := hin.out.move mv
      have hF := hfs.out.move mv
      obtain ⟨xb, xo, rfl, _, cf⟩ := hF g hgl
      have hx : (fs key n)[g] < n := fs_lt (List.getElem_mem hgl)
      have hxg : (fs key n).getD g 0 = (fs key n)[g] := by simp [List.getD_eq_getElem?_getD, hgl]
      change _ = some (Value.int .i64 (((fs key n).getD g 0 : Nat) : Int)) at cf
      rw [hxg] at cf
      obtain ⟨x, hxe⟩ : ∃ x, (fs key n)[g] = x := ⟨_, rfl⟩
      have HXE := hide hxe
      rw [hxe] at cf hx
      clear hxe hxg
      obtain ⟨i, hi, him⟩ := hI.nd x hx
      obtain ⟨nb, no, rfl, _, cn⟩ := hI.nodes x hx
      have cn' : wr.cell? ⟨nb, no + x, none⟩ = some (.int .i64 (i : Int)) := by rw [cn]; show some (Value.int .i64 (key x).2.2) = _; rw [hi]
      have HSZ : Hid (sG key ln n g = szOf ln i) := by
        rw [sG_fs hgl, HXE.out]
        unfold sU
        rw [hi]
        rfl
      have hcall : Calls Try.prog 19 #[.slice a3 m c3, .int .i64 (i : Int)] (wr.setCell ⟨bb, g, none⟩ (.int .i64 (bG key ln n g : Int))) fun e w' => e = .returned (.int .i64 (szOf ln i : Int)) ∧ w' = wr.setCell ⟨bb, g, none⟩ (.int .i64 (bG key ln n g : Int)) := size_any (hI.sets.move (fun b hb => Below.heap_setCell _ _ _ _ (by show b ≠ bb; omega))) him (hI.lnb i him)
      have c2' : wr.cell? ⟨bb, g, none⟩ = some (.int .i64 (f g)) := by rw [HO.out.cellAt g (by omega)]; exact ivals_at hgc
      have c3' : wr.frozen? ⟨bb, g, none⟩ = false := HO.out.frozenAt g
      have hxz : (x : Int) < (n : Int) := by omega
      have cf2 : (wr.setCell ⟨bb, g, none⟩ (.int .i64 (bG key ln n g : Int))).cell? ⟨xb, xo + g, none⟩ = some (.int .i64 (x : Int)) := by rw [World.cell?_of_block (w := wr) (Below.heap_setCell _ _ _ _ (by show xb ≠ bb; omega))]; exact cf
      have cn2 : (wr.setCell ⟨bb, g, none⟩ (.int .i64 (bG key ln n g : Int))).cell? ⟨nb, no + x, none⟩ = some (.int .i64 (i : Int)) := by rw [World.cell?_of_block (w := wr) (Below.heap_setCell _ _ _ _ (by show nb ≠ bb; omega))]; exact cn'
      have HBD : bG key ln n g + szOf ln i ≤ 1048576 := by
        have h1 : bG key ln n (g + 1) ≤ bG key ln n (fs key n).length := base_mono hgl
        rw [bG_succ, HSZ.out] at h1
        have h2 := bG_total (key := key) (ln := ln) (n := n)
        have h3 := hI.prts
        omega
      clear hI hF cn hi mv cf cn'
      generalize hz : szOf ln i = z at *
      have HZ := hide hz
      clear hz
      generalize hb : bG key ln n g = bv at *
      have HBV := hide hb
      clear hb
      go_wp2_with (go_at_call 19; fail)
      refine hcall.mono ?_
      rintro e w2 ⟨rfl, hw2⟩
      subst w2
      clear hcall
      go_wp2_with fail
      go_roundg (c - (g + 1))
      case measure => omega
      case rel =>
        refine ⟨g + 1, by simp, by omega, ?_, grown_set HG.out hbb _, _, own_set HO.out g _, fun j hj => ?_⟩
        · rw [bG_succ, HSZ.out, HBV.out]; simp
        · unfold updN
          by_cases e : j = g
          · rw [if_pos e, e, HBV.out]
          · rw [if_neg e]; exact HFJ.out j (by omega)
    · have hgz : ¬ ((g : Int) < (c : Int)) := by omega
      obtain rfl : g = c := by omega
      go_wp2_with fail
      exact hQ.out _ _ _ _ _ _ _ _ _ _ _ _ _ _ _ _ _ _ _ _ _ _ HG.out f HO.out HFJ.out
end Go.Proofs.Qxb6603801a
