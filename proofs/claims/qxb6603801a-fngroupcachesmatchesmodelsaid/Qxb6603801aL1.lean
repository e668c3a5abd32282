import Derived.Test.Qxb6603801aEq
import Derived.Test.Qxb6603801aIo
import Derived.Test.Qxb6603801aEg
import Derived.Test.Qxb6603801aNav
import Derived.Deep.DeepCutAuto
import Derived.Deep.LoopGhost
import Derived.BigQuiet
namespace Go.Proofs.Qxb6603801a
open Go.RowKit

/-- the law's first loop: u caches are through -/
def L1s (wE : World) (xb n : Nat) (key : Nat → Key) (u : Nat) (fv : Option Addr) (fc : Nat) (wr : World) : Prop :=
  wE.grownBy wr none ∧ (∃ f : Nat → Int, wr.ownsRow wE.heap.size 3 1 (.slice (some ⟨xb, 0, none⟩) n n) n (ivals n f) ∧ ∀ j, j < u → f j = (gi key j : Int)) ∧ wr.ownsRow (xb + 1) 3 1 (.slice fv (fs key u).length fc) (fs key u).length (intsV (fs key u))

/-- what 'found' holds after x places -/
def Fnd (key : Nat → Key) (u x : Nat) (v : Value) : Prop :=
  (v = .int .i64 (-1) ∧ ∀ y, y < x → key y ≠ key u) ∨ ∃ y : Nat, v = .int .i64 (y : Int) ∧ x = y + 1 ∧ key y = key u

set_option maxRecDepth 100000 in
set_option maxHeartbeats 20000000 in
theorem l1 {x0 x2 x3 x5 x6 x7 x8 x9 x10 x11 x12 x13 x14 x15 x16 x17 x18 x19 x20 x25 x26 x27 x28 x29 x30 x31 x32 x33 x34 x35 x36 x37 x38 x39 x40 x41 x42 x43 x44 x45 x46 x47 x48 x49 x50 x51 x52 x53 x54 x55 x56 x57 x58 x59 x60 x61 x62 x63 x64 x65 x66 x67 x68 x69 x70 x71 x72 x73 x74 x75 x76 x77 x78 x79 x80 x81 x82 x83 x84 x85 x86 x87 x88 x89 x90 x91 x92 x93 x94 x95 x96 x97 x98 x99 x100 x101 x102 x103 x104 x105 x106 x107 x108 x109 x110 x111 x112 x113 x114 x115 x116 x117 x118 x119 x120 x121 x122 x123 x124 x125 x126 x127 x128 x129 x130 x131 x132 x133 x134 x135 x136 x137 x138 x139 x140 x141 x142 x143 x144 x145 x146 x147 x148 x149 x150 x151 x152 x153 x154 x155 x156 x157 x158 x159 x160 x161 x162 x163 x164 x165 x166 x167 x168 x169 x170 x171 x172 x173 x174 x175 x176 x177 x178 x179 x180 x181 x182 x183 x184 x185 x186 x187 x188 x189 x190 x191 x192 x193 x194 x195 x196 x197 x198 x199 x200 x201 x202 x203 x204 x205 x206 x207 x208 x209 x210 x211 x212 x213 x214 x215 x216 x217 x218 x219 x220 x221 x222 x223 x224 x225 x226 x227 x228 x229 x230 x231 x232 x233 x234 x235 x236 x237 x238 x239 x240 x241 x242 x243 x244 x245 x246 x247 x248 x249 x250 x251 x252 x253 x254 x255 x256 x257 x258 x259 x260 x261 x262 x263 x264 x265 x266 x267 x268 x269 x270 x271 x272 x273 x274 x275 x276 x277 x278 x279 x280 x281 x282 x283 x284 x285 x286 x287 x288 x289 x290 x291 x292 x293 x294 x295 x296 x297 x298 x299 x300 x301 x302 x303 x304 x305 x306 x307 x308 x309 x310 x311 x312 x313 x314 x315 x316 x317 x318 x319 x320 x321 x322 x323 x324 x325 x326 x327 x328 x329 x330 x331 x332 x333 x334 x335 x336 x337 x338 x339 x340 x341 x342 x343 x344 x345 x346 x347 x348 x349 x350 x351 x352 x353 x354 x355 x356 x357 x358 x359 x360 x361 x362 x363 x364 x365 x366 x367 x368 x369 x370 x371 x372 x373 x374 x375 x376 x377 x378 x379 x380 x381 x382 x383 x384 x385 x386 x387 x388 x389 x390 x391 x392 x393 x394 x395 x396 x397 x398 x399 x400 x401 x402 x403 x404 x405 x406 x407 x408 x409 x410 x411 x412 x413 x414 x415 x416 x417 x418 x419 x420 x421 x422 x423 x424 x425 x426 x427 x428 x429 x430 x431 x432 x433 x434 x435 x436 x437 x438 x439 x440 x441 x442 x443 x444 x445 x446 x447 x448 x449 x450 x451 x452 x453 x454 x455 x456 x457 x458 x459 x460 x461 x462 x463 x464 x465 x466 x467 x468 x469 x470 x471 x472 x473 x474 x475 x476 x477 x478 x479 x480 x481 x482 x483 x484 x485 x486 x487 : Value} {K : Act → World → Prop} {B n parts m fl xb fb c2 c5 : Nat} {key : Nat → Key} {ln : Nat → Nat} {a2 a3 a4 a5 : Option Addr} {wE wx : World}
    (hin : Hid (Inp B wx n parts m fl key ln a2 a3 a4 a5)) (hB : B ≤ wE.heap.size) (hxb : wE.heap.size ≤ xb) (hg : Hid (wE.grownBy wx none)) (hg0 : Hid (wE.grownBy wx none)) (hx : Hid (wx.ownsRow wE.heap.size 3 1 (.slice (some ⟨xb, 0, none⟩) n n) n (ivals n fun _ => 0))) (hf : Hid (wx.ownsRow (xb + 1) 3 1 (.slice (some ⟨fb, 0, none⟩) 0 n) 0 []))
    (hQ : Hid (∀ (y24 y25 y26 y130 y131 y132 y133 y134 y135 y136 y137 y138 y139 y140 y141 y142 y143 y144 y145 y146 y147 y148 y149 y150 y151 y152 y153 y154 y155 y156 y157 y158 y159 y160 y161 y162 y163 y164 y165 y166 y167 y168 y169 y170 y171 y172 y173 y174 y175 y176 y177 y178 y179 y180 y181 y182 : Value) (fv : Option Addr) (fc : Nat) (w' : World), L1s wE xb n key n fv fc w' →
      K { tmps := #[x0, .slice a2 n c2, x2, x3, .slice a5 n c5, x5, x6, x7, x8, x9, x10, x11, x12, x13, x14, x15, x16, x17, x18, x19, x20, .int .i64 (n : Int), .slice (some ⟨xb, 0, none⟩) n n, .slice fv (fs key n).length fc, y24, y25, y26, x27, x28, x29, x30, x31, x32, x33, x34, x35, x36, x37, x38, x39, x40, x41, x42, x43, x44, x45, x46, x47, x48, x49, x50, x51, x52, x53, x54, x55, x56, x57, x58, x59, x60, x61, x62, x63, x64, x65, x66, x67, x68, x69, x70, x71, x72, x73, x74, x75, x76, x77, x78, x79, x80, x81, x82, x83, x84, x85, x86, x87, x88, x89, x90, x91, x92, x93, x94, x95, x96, x97, x98, x99, x100, x101, x102, x103, x104, x105, x106, x107, x108, x109, x110, x111, x112, x113, x114, x115, x116, x117, x118, x119, x120, x121, x122, x123, x124, x125, x126, x127, x128, x129, y130, y131, y132, y133, y134, y135, y136, y137, y138, y139, y140, y141, y142, y143, y144, y145, y146, y147, y148, y149, y150, y151, y152, y153, y154, y155, y156, y157, y158, y159, y160, y161, y162, y163, y164, y165, y166, y167, y168, y169, y170, y171, y172, y173, y174, y175, y176, y177, y178, y179, y180, y181, y182, x183, x184, x185, x186, x187, x188, x189, x190, x191, x192, x193, x194, x195, x196, x197, x198, x199, x200, x201, x202, x203, x204, x205, x206, x207, x208, x209, x210, x211, x212, x213, x214, x215, x216, x217, x218, x219, x220, x221, x222, x223, x224, x225, x226, x227, x228, x229, x230, x231, x232, x233, x234, x235, x236, x237, x238, x239, x240, x241, x242, x243, x244, x245, x246, x247, x248, x249, x250, x251, x252, x253, x254, x255, x256, x257, x258, x259, x260, x261, x262, x263, x264, x265, x266, x267, x268, x269, x270, x271, x272, x273, x274, x275, x276, x277, x278, x279, x280, x281, x282, x283, x284, x285, x286, x287, x288, x289, x290, x291, x292, x293, x294, x295, x296, x297, x298, x299, x300, x301, x302, x303, x304, x305, x306, x307, x308, x309, x310, x311, x312, x313, x314, x315, x316, x317, x318, x319, x320, x321, x322, x323, x324, x325, x326, x327, x328, x329, x330, x331, x332, x333, x334, x335, x336, x337, x338, x339, x340, x341, x342, x343, x344, x345, x346, x347, x348, x349, x350, x351, x352, x353, x354, x355, x356, x357, x358, x359, x360, x361, x362, x363, x364, x365, x366, x367, x368, x369, x370, x371, x372, x373, x374, x375, x376, x377, x378, x379, x380, x381, x382, x383, x384, x385, x386, x387, x388, x389, x390, x391, x392, x393, x394, x395, x396, x397, x398, x399, x400, x401, x402, x403, x404, x405, x406, x407, x408, x409, x410, x411, x412, x413, x414, x415, x416, x417, x418, x419, x420, x421, x422, x423, x424, x425, x426, x427, x428, x429, x430, x431, x432, x433, x434, x435, x436, x437, x438, x439, x440, x441, x442, x443, x444, x445, x446, x447, x448, x449, x450, x451, x452, x453, x454, x455, x456, x457, x458, x459, x460, x461, x462, x463, x464, x465, x466, x467, x468, x469, x470, x471, x472, x473, x474, x475, x476, x477, x478, x479, x480, x481, x482, x483, x484, x485, x486, x487], defers := [] } w')) :
    Code.wp Try.prog (nav [1, 1, 1, 1, 1, 1, 1, 1, 1, 1, 1, 1, 1, 1, 1, 1, 0, 1] (Try.f5.body.getD .skip)) (Exit.then K fun _ _ _ => False) { tmps := #[x0, .slice a2 n c2, x2, x3, .slice a5 n c5, x5, x6, x7, x8, x9, x10, x11, x12, x13, x14, x15, x16, x17, x18, x19, x20, .int .i64 (n : Int), .slice (some ⟨xb, 0, none⟩) n n, .slice (some ⟨fb, 0, none⟩) 0 n, .int .i64 0, x25, x26, x27, x28, x29, x30, x31, x32, x33, x34, x35, x36, x37, x38, x39, x40, x41, x42, x43, x44, x45, x46, x47, x48, x49, x50, x51, x52, x53, x54, x55, x56, x57, x58, x59, x60, x61, x62, x63, x64, x65, x66, x67, x68, x69, x70, x71, x72, x73, x74, x75, x76, x77, x78, x79, x80, x81, x82, x83, x84, x85, x86, x87, x88, x89, x90, x91, x92, x93, x94, x95, x96, x97, x98, x99, x100, x101, x102, x103, x104, x105, x106, x107, x108, x109, x110, x111, x112, x113, x114, x115, x116, x117, x118, x119, x120, x121, x122, x123, x124, x125, x126, x127, x128, x129, x130, x131, x132, x133, x134, x135, x136, x137, x138, x139, x140, x141, x142, x143, x144, x145, x146, x147, x148, x149, x150, x151, x152, x153, x154, x155, x156, x157, x158, x159, x160, x161, x162, x163, x164, x165, x166, x167, x168, x169, x170, x171, x172, x173, x174, x175, x176, x177, x178, x179, x180, x181, x182, x183, x184, x185, x186, x187, x188, x189, x190, x191, x192, x193, x194, x195, x196, x197, x198, x199, x200, x201, x202, x203, x204, x205, x206, x207, x208, x209, x210, x211, x212, x213, x214, x215, x216, x217, x218, x219, x220, x221, x222, x223, x224, x225, x226, x227, x228, x229, x230, x231, x232, x233, x234, x235, x236, x237, x238, x239, x240, x241, x242, x243, x244, x245, x246, x247, x248, x249, x250, x251, x252, x253, x254, x255, x256, x257, x258, x259, x260, x261, x262, x263, x264, x265, x266, x267, x268, x269, x270, x271, x272, x273, x274, x275, x276, x277, x278, x279, x280, x281, x282, x283, x284, x285, x286, x287, x288, x289, x290, x291, x292, x293, x294, x295, x296, x297, x298, x299, x300, x301, x302, x303, x304, x305, x306, x307, x308, x309, x310, x311, x312, x313, x314, x315, x316, x317, x318, x319, x320, x321, x322, x323, x324, x325, x326, x327, x328, x329, x330, x331, x332, x333, x334, x335, x336, x337, x338, x339, x340, x341, x342, x343, x344, x345, x346, x347, x348, x349, x350, x351, x352, x353, x354, x355, x356, x357, x358, x359, x360, x361, x362, x363, x364, x365, x366, x367, x368, x369, x370, x371, x372, x373, x374, x375, x376, x377, x378, x379, x380, x381, x382, x383, x384, x385, x386, x387, x388, x389, x390, x391, x392, x393, x394, x395, x396, x397, x398, x399, x400, x401, x402, x403, x404, x405, x406, x407, x408, x409, x410, x411, x412, x413, x414, x415, x416, x417, x418, x419, x420, x421, x422, x423, x424, x425, x426, x427, x428, x429, x430, x431, x432, x433, x434, x435, x436, x437, x438, x439, x440, x441, x442, x443, x444, x445, x446, x447, x448, x449, x450, x451, x452, x453, x454, x455, x456, x457, x458, x459, x460, x461, x462, x463, x464, x465, x466, x467, x468, x469, x470, x471, x472, x473, x474, x475, x476, x477, x478, x479, x480, x481, x482, x483, x484, x485, x486, x487], defers := [] } wx := by
  obtain ⟨i3, hi3, h30, h31, h32⟩ := info_parts Try.info3
  have hnb := hin.out.nb
  simp only [nav, Try.f5, Option.getD]
  go_wp2_with fail
  go_loopg [23, 24] n (fun k v23 v24 wr => ∃ (u : Nat) (fv : Option Addr) (fc : Nat), v24 = .int .i64 (u : Int) ∧ u + k = n ∧ v23 = .slice fv (fs key u).length fc ∧ L1s wE xb n key u fv fc wr)
  case atStart => exact ⟨0, _, _, rfl, by omega, rfl, hg.out, ⟨_, hx.out, fun j hj => by omega⟩, hf.out⟩
  case round =>
    obtain ⟨u, fv, fc, rfl, huk, rfl, hS⟩ := hrel
    obtain ⟨wo, rfl⟩ : ∃ wo, wo = wr := ⟨wr, rfl⟩
    have HS := hide hS
    clear hS hg hx hf
    by_cases hu : u < n
    · have huz : (u : Int) < (n : Int) := by omega
      have hI : Inp B wo n parts m fl key ln a2 a3 a4 a5 := hin.out.move (fun b hb => (HS.out.1.block b (by omega) (by simp)).trans (hg0.out.block b (by omega) (by simp)).symm)
      obtain ⟨ub, uo, rfl, _, cu0, cu1⟩ := hI.units u hu
      obtain ⟨nb, no, rfl, _, cn⟩ := hI.nodes u hu
      have HI := hide hI
      clear hI
      obtain ⟨b0, b1, b2, hkey⟩ : ∃ b0 b1 b2, key u = (b0, b1, b2) := ⟨_, _, _, rfl⟩
      have HKU := hide hkey
      simp only [hkey] at cu0 cu1 cn
      clear hkey
      go_wp2_with fail
      go_loopg [25, 26] u (fun k v25 v26 wz => ∃ (x q : Nat), v26 = .int .i64 (x : Int) ∧ x + k = u ∧ wz = wo.drewN q ∧ Fnd key u x v25)
      case atStart => exact ⟨0, 0, rfl, by omega, rfl, .inl ⟨rfl, fun y hy => by omega⟩⟩
      case round =>
        obtain ⟨x, q, rfl, hxk, hw, hfn⟩ := hrel
        subst wr
        rcases hfn with ⟨rfl, hno⟩ | ⟨y, rfl, rfl, hyk⟩
        · have HNO := hide hno
          clear hno
          by_cases hx : x < u
          · have hxz : (x : Int) < (u : Int) := by omega
            have hxz2 : (x : Int) < (n : Int) := by omega
            obtain ⟨ub', uo', hub', _, ca0, ca1⟩ := HI.out.units x (by omega)
            cases hub'
            obtain ⟨nb', no', hnb', _, can⟩ := HI.out.nodes x (by omega)
            cases hnb'
            obtain ⟨a0, a1, a2', hkx⟩ : ∃ b0 b1 b2, key x = (b0, b1, b2) := ⟨_, _, _, rfl⟩
            have HKX := hide hkx
            simp only [hkx] at ca0 ca1 can
            clear hkx
            by_cases hun : a0 = b0 ∧ a1 = b1
            · obtain ⟨rfl, rfl⟩ := hun
              by_cases hnn : a2' = b2
              · subst hnn
                have hk : key x = key u := by rw [HKX.out, HKU.out]
                have f39 : ∀ w, (binOp .eql 39 (.agg #[.int .i64 a0, .int .i64 a1]) (.agg #[.int .i64 a0, .int .i64 a1])).run Try.prog w = .ok (.bool true) w := fun w => by rw [eql39]; simp
                go_wp2_with fail
                go_quiet (fail)
                go_wp2_with fail
                go_roundg (u - (x + 1))
                case measure => omega
                case rel => exact ⟨x + 1, _, by simp, by omega, rfl, .inr ⟨x, rfl, rfl, hk⟩⟩
              · have hk : key x ≠ key u := by rw [HKX.out, HKU.out]; intro h; simp at h; exact hnn h
                have f39 : ∀ w, (binOp .eql 39 (.agg #[.int .i64 a0, .int .i64 a1]) (.agg #[.int .i64 a0, .int .i64 a1])).run Try.prog w = .ok (.bool true) w := fun w => by rw [eql39]; simp
                have hnn2 : (a2' == b2) = false := by simp [hnn]
                have hnn3 : decide (a2' = b2) = false := by simp [hnn]
                go_wp2_with fail
                go_quiet (fail)
                go_wp2_with fail
                go_roundg (u - (x + 1))
                case measure => omega
                case rel =>
                  refine ⟨x + 1, _, by simp, by omega, rfl, .inl ⟨rfl, fun y hy => ?_⟩⟩
                  by_cases e : y = x
                  · rw [e]; exact hk
                  · exact HNO.out y (by omega)
            · have hk : key x ≠ key u := by rw [HKX.out, HKU.out]; intro h; simp at h; exact hun ⟨h.1, h.2.1⟩
              have f39 : ∀ w, (binOp .eql 39 (.agg #[.int .i64 a0, .int .i64 a1]) (.agg #[.int .i64 b0, .int .i64 b1])).run Try.prog w = .ok (.bool false) w := fun w => by rw [eql39]; simp [hun]
              clear hun
              go_wp2_with fail
              go_quiet (fail)
              go_wp2_with fail
              go_roundg (u - (x + 1))
              case measure => omega
              case rel =>
                refine ⟨x + 1, _, by simp, by omega, rfl, .inl ⟨rfl, fun y hy => ?_⟩⟩
                by_cases e : y = x
                · rw [e]; exact hk
                · exact HNO.out y (by omega)
          · have hxz : ¬ ((x : Int) < (u : Int)) := by omega
            have HNK : Hid (key u ∉ kls key u) := fun h => by
              obtain ⟨y, h1, h2⟩ := kls_mem.1 h
              exact HNO.out y (by omega) h2
            have HLEN : (fs key u).length ≤ 4096 := Nat.le_trans (fs_len u) (by omega)
            obtain ⟨f, ho, hfj⟩ := HS.out.2.1
            have HO := hide ho
            have HFJ := hide hfj
            have hlt := (ho.lt xb rfl).2
            have c2' : wo.cell? ⟨xb, u, none⟩ = some (.int .i64 (f u)) := by rw [ho.cellAt u (by omega)]; exact ivals_at hu
            have c3' : wo.frozen? ⟨xb, u, none⟩ = false := ho.frozenAt u
            have HOF := hide HS.out.2.2
            have hxlt : xb + 1 ≤ wo.heap.size := hlt
            have HO2 : Hid (((wo.drewN q).setCell ⟨xb, u, none⟩ (.int .i64 ((fs key u).length : Int))).ownsRow wE.heap.size 3 1 (.slice (some ⟨xb, 0, none⟩) n n) n (ivals n (updN f u ((fs key u).length : Int)))) := own_set (own_move ho fun _ _ => rfl) u _
            have HOF2 : Hid (((wo.drewN q).setCell ⟨xb, u, none⟩ (.int .i64 ((fs key u).length : Int))).ownsRow (xb + 1) 3 1 (.slice fv (fs key u).length fc) (fs key u).length (intsV (fs key u))) := own_move HOF.out fun g hg => Below.heap_setCell _ _ _ _ (fun e => by have := (HOF.out.lt g hg).1; have : g = xb := e; omega)
            have HG2 : Hid (wE.grownBy ((wo.drewN q).setCell ⟨xb, u, none⟩ (.int .i64 ((fs key u).length : Int))) none) := grown_set (grown_drewN HS.out.1 q) hxb _
            have hsz2 : xb + 1 ≤ ((wo.drewN q).setCell ⟨xb, u, none⟩ (.int .i64 ((fs key u).length : Int))).heap.size := by simp; omega
            clear ho hfj
            go_upto_region 33 with fail
            clear c2' c3'
            generalize ((wo.drewN q).setCell ⟨xb, u, none⟩ (.int .i64 ((fs key u).length : Int))) = w2 at *
            go_wp2_with (at_builtin; refine wpList_append_own_at _ rfl (.tmp 172) (.tmp 174) 22 rfl (xb + 1) 3 i3 (.int .i64 0) 1 8 Try.underlying22 hi3 h30 h31 h32 rfl (by decide) (.slice fv (fs key u).length fc) (fs key u).length (intsV (fs key u)) rfl (by exact HOF2.out.alloc _) ⟨w2.heap.size, 0, none⟩ 1 1 [.int .i64 (u : Int)] rfl rfl (by exact cell_one_new w2 (.int .i64 (u : Int)) 3) (by intro u hu; simp at hu; subst hu; rfl) (by unfold maxLen; omega) (by omega) (by simp; omega) ?_)
            intro v8 w8 hown8 hgrow8 _ hloc8
            obtain ⟨g8, cap8, rfl⟩ := own_form hown8 (by omega)
            have HOW8 := hide hown8
            have HGR8 := hide hgrow8
            clear hown8 hgrow8 hloc8
            go_wp2_with fail
            go_roundg (n - (u + 1))
            case measure => omega
            case rel =>
              have e1 : fs key (u + 1) = fs key u ++ [u] := fs_new HNK.out
              have e2 : (fs key (u + 1)).length = (fs key u).length + 1 := by rw [e1]; simp
              refine ⟨u + 1, some ⟨g8, 0, none⟩, cap8, by simp, by omega, by rw [e2], ?_, ⟨_, own_move (HO2.out.alloc (.cells #[.int .i64 (u : Int)] 3)) (fun g hg => HGR8.out.block g (by have := ((HO2.out.alloc (.cells #[.int .i64 (u : Int)] 3)).lt g hg).2; exact this) (fun e => ?_)), fun j hj => ?_⟩, ?_⟩
              · refine (grown_alloc HG2.out _).andThen HGR8.out (fun k hk => .inl ?_)
                have := (HOF2.out.lt k hk).1
                omega
              · have h5 : xb + 1 ≤ g := (HOF2.out.lt g e.symm).1
                have h6 : some xb = some g := hg
                simp only [Option.some.injEq] at h6
                omega
              · unfold updN
                by_cases e : j = u
                · rw [if_pos e, e, gi_new HNK.out]
                · rw [if_neg e]; exact HFJ.out j (by omega)
              · rw [e2, e1]
                have h := HOW8.out
                simp only [intsV, List.map_append, List.map_cons, List.map_nil] at h ⊢
                exact h
        · have hyu : y < u := by omega
          have hyz : ¬ ((y : Int) < 0) := by omega
          obtain ⟨f, ho, hfj⟩ := HS.out.2.1
          have HO := hide ho
          have HFJ := hide hfj
          have c2' : wo.cell? ⟨xb, u, none⟩ = some (.int .i64 (f u)) := by rw [ho.cellAt u (by omega)]; exact ivals_at hu
          have c3' : wo.frozen? ⟨xb, u, none⟩ = false := ho.frozenAt u
          have c4' : wo.cell? ⟨xb, y, none⟩ = some (.int .i64 (gi key y : Int)) := by rw [ho.cellAt y (by omega), ivals_at (by omega), hfj y (by omega)]
          have hyz2 : (y : Int) < (n : Int) := by omega
          have HOF := hide HS.out.2.2
          clear ho hfj
          have fin : ∀ q, ∃ (u' : Nat) (fv' : Option Addr) (fc' : Nat), Value.int .i64 ((u : Int) + 1) = .int .i64 (u' : Int) ∧ u' + (n - (u + 1)) = n ∧ Value.slice fv (fs key u).length fc = .slice fv' (fs key u').length fc' ∧ L1s wE xb n key u' fv' fc' ((wo.drewN q).setCell ⟨xb, u, none⟩ (.int .i64 (gi key y : Int))) := fun q => by
            have hkm : key u ∈ kls key u := kls_mem.2 ⟨y, hyu, hyk⟩
            have e1 : fs key (u + 1) = fs key u := fs_old hkm
            refine ⟨u + 1, fv, fc, by simp, by omega, by rw [e1], grown_set (grown_drewN HS.out.1 q) hxb _, ⟨_, own_set (own_move HO.out fun _ _ => rfl) u _, fun j hj => ?_⟩, ?_⟩
            · unfold updN
              by_cases e : j = u
              · rw [if_pos e, e, gi_inj.2 hyk]
              · rw [if_neg e]; exact HFJ.out j (by omega)
            · rw [e1]
              exact own_move HOF.out fun g hg => Below.heap_setCell _ _ _ _ (fun e => by have := (HOF.out.lt g hg).1; have : g = xb := e; omega)
          have FIN := hide fin
          clear fin
          by_cases hx : y + 1 < u
          · have hxz : (y : Int) + 1 < (u : Int) := by omega
            go_wp2_with fail
            go_roundg (n - (u + 1))
            case measure => omega
            case rel => exact FIN.out _
          · have hxz : ¬ ((y : Int) + 1 < (u : Int)) := by omega
            go_wp2_with fail
            go_roundg (n - (u + 1))
            case measure => omega
            case rel => exact FIN.out _
    · have huz : ¬ ((u : Int) < (n : Int)) := by omega
      obtain rfl : u = n := by omega
      go_wp2_with fail
      exact hQ.out _ _ _ _ _ _ _ _ _ _ _ _ _ _ _ _ _ _ _ _ _ _ _ _ _ _ _ _ _ _ _ _ _ _ _ _ _ _ _ _ _ _ _ _ _ _ _ _ _ _ _ _ _ _ _ _ _ _ _ HS.out
end Go.Proofs.Qxb6603801a
