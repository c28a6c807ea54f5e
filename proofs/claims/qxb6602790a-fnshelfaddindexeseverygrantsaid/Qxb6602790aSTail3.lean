import Derived.Test.Qxb6602790aSTail2
import Derived.Deep.Cut
namespace Go.Proofs.Qxb6602790a
open Go.RowKit Go.Deep SLaw
attribute [local go_sem ↓] Go.wp_at_zero Go.wp_at_succ

set_option maxHeartbeats 64000000 in
set_option maxRecDepth 1000000 in
/-- THE MODEL IS FILLED, THE SETS ARE CHECKED, AND WHAT FOLLOWS. -/
theorem tail66 (w0 wc ws : World) (B s g k cc : Nat) (pc : Option Addr) (D : Dat) (Xc : Adr) (col : Nat → Nat) (st : List Sto) (hbu : Built wc ws B (B + 2) B (B + 1) D Xc k col st) (hR : Reads wc pc k D Xc) (hBq : wc.heap.size = B) (hLe : Lens D k) (hSm : Small D k)
    (hG : g = sumTo D.gn k) (hI : s = sumTo (idsOf D) k) (hg : g ≤ 4096) (hs : s ≤ 4096) (hk : k ≤ 4096)
    (hb0 : Below w0.heap.size w0 wc) (x y : Code) (hxy : dropTo 66 (Try.f7.body.getD .skip) = .seq x y) (K : Act → World → Prop) (hK : ∀ a w, Code.wp Try.prog y (bodyPost Try.prog Try.f7 (Done w0)) a w → K a w)
    (x1 x2 x4 x5 x7 x8 x9 x10 x11 x12 x13 x14 x15 x17 x18 x19 x20 x21 x22 x23 x24 x25 x26 x27 x28 x29 x30 x31 x32 x33 x34 x35 x36 x37 x38 x39 x40 x41 x42 x43 x44 x45 x46 x47 x48 x49 x50 x51 x52 x53 x54 x55 x56 x57 x58 x59 x60 x61 x62 x63 x64 x65 x66 x67 x68 x69 x70 x71 x72 x73 x74 x75 x76 x77 x78 x79 x80 x81 x82 x83 x84 x85 x86 x87 x88 x89 x90 x91 x92 x93 x94 x95 x96 x97 x98 x99 x100 x101 x102 x103 x104 x105 x106 x107 x108 x109 x110 x111 x112 x113 x114 x115 x116 x117 x118 x119 x120 x121 x122 x123 x124 x125 x126 x127 x128 x129 x130 x131 x132 x133 x134 x135 x136 x137 x138 x139 x140 x141 x142 x143 x144 x145 x146 x147 x148 x149 x150 x151 x152 x153 x154 x155 x156 x157 x158 x159 x160 x161 x162 x163 x164 x165 x166 x167 x168 x169 x170 x171 x172 x173 x174 x175 x176 x177 x178 x179 x180 x181 x182 x183 x184 x185 x186 x187 x188 x189 x190 x191 x192 x193 x194 x195 x196 x197 x198 x199 x200 x201 x202 x203 x204 x205 x206 x207 x208 x209 x210 x211 x212 x213 x214 x215 x216 x217 x218 x219 x220 x221 x222 x223 x224 x225 x226 x227 x228 x229 x230 x231 x232 x233 x234 x235 x236 x237 x238 x239 x240 x241 x242 x243 x244 x245 x246 x247 x248 x249 x250 x251 x252 x253 x254 x255 x256 x257 x258 x259 x260 x261 x262 x263 x264 x265 x266 x267 x268 x269 x270 x271 x272 x273 x274 x275 x276 x277 x278 x279 x280 x281 x282 x283 x284 x285 x286 x287 x288 x289 x290 x291 x292 x293 x294 x295 x296 x297 x298 x299 x300 x301 x302 x303 x304 x305 x306 x307 x308 x309 x310 x311 x312 x313 x314 x315 x316 x317 x318 x319 x320 x321 x322 x323 x324 x325 x326 x327 x328 x329 x330 x331 x332 x333 x334 x335 x336 x337 x338 x339 x340 x341 x342 x343 x344 x345 x346 x347 x348 x349 x350 x351 x352 x353 x354 x355 x356 x357 x358 x359 x360 x361 x362 x363 x364 x365 x366 x367 x368 x369 x370 x371 x372 x373 x374 x375 x376 x377 x378 x379 x380 x381 x382 x383 x384 x385 x386 x387 x388 x389 x390 x391 x392 x393 x394 x395 x396 x397 x398 x399 x400 x401 x402 x403 x404 x405 x406 x407 x408 x409 x410 x411 x412 x413 x414 x415 x416 x417 x418 x419 x420 x421 x422 x423 x424 x425 x426 x427 x428 x429 x430 x431 x432 x433 x434 x435 x436 x437 x438 x439 x440 x441 x442 x443 x444 x445 x446 x447 x448 x449 x450 x451 x452 x453 x454 x455 x456 x457 x458 x459 x460 x461 x462 x463 x464 x465 x466 x467 x468 x469 x470 x471 x472 x473 x474 x475 x476 x477 x478 x479 x480 x481 x482 x483 x484 x485 x486 x487 x488 x489 x490 x491 x492 x493 x494 x495 x496 x497 x498 x499 x500 x501 x502 x503 x504 x505 x506 x507 x508 x509 x510 x511 x512 x513 x514 x515 x516 x517 x518 x519 x520 x521 x522 x523 x524 x525 x526 x527 x528 x529 x530 x531 x532 x533 x534 x535 x536 x537 x538 x539 x540 x541 x542 x543 x544 x545 x546 x547 x548 x549 x550 x551 x552 x553 x554 x555 x556 x557 x558 x559 x560 x561 x562 x563 x564 x565 x566 x567 x568 x569 x570 x571 x572 x573 x574 x575 x576 x577 x578 x579 x580 x581 x582 x583 x584 x585 x586 x587 x588 x589 x590 x591 x592 x593 x594 x595 x596 x597 x598 x599 x600 x601 x602 x603 x604 x605 x606 x607 x608 x609 x610 x611 x612 x613 x614 x615 x616 x617 x618 x619 x620 x621 x622 x623 x624 x625 x626 x627 x628 x629 x630 x631 x632 x633 x634 x635 x636 x637 x638 x639 x640 x641 x642 x643 x644 x645 x646 x647 x648 x649 x650 x651 x652 x653 x654 x655 x656 x657 x658 x659 x660 x661 x662 x663 : Value) :
    Code.wp Try.prog x (Exit.then K (bodyPost Try.prog Try.f7 (Done w0))) ⟨#[.slice pc k cc, x1, x2, .int .i64 (g : Int), x4, x5, .int .i64 (s : Int), x7, x8, x9, x10, x11, x12, x13, x14, x15, .pointer (some ⟨B + 2, 0, none⟩), x17, x18, x19, x20, x21, x22, x23, x24, x25, x26, x27, x28, x29, x30, x31, x32, x33, x34, x35, x36, x37, x38, x39, x40, x41, x42, x43, x44, x45, x46, x47, x48, x49, x50, x51, x52, x53, x54, x55, x56, x57, x58, x59, x60, x61, x62, x63, x64, x65, x66, x67, x68, x69, x70, x71, x72, x73, x74, x75, x76, x77, x78, x79, x80, x81, x82, x83, x84, x85, x86, x87, x88, x89, x90, x91, x92, x93, x94, x95, x96, x97, x98, x99, x100, x101, x102, x103, x104, x105, x106, x107, x108, x109, x110, x111, x112, x113, x114, x115, x116, x117, x118, x119, x120, x121, x122, x123, x124, x125, x126, x127, x128, x129, x130, x131, x132, x133, x134, x135, x136, x137, x138, x139, x140, x141, x142, x143, x144, x145, x146, x147, x148, x149, x150, x151, x152, x153, x154, x155, x156, x157, x158, x159, x160, x161, x162, x163, x164, x165, x166, x167, x168, x169, x170, x171, x172, x173, x174, x175, x176, x177, x178, x179, x180, x181, x182, x183, x184, x185, x186, x187, x188, x189, x190, x191, x192, x193, x194, x195, x196, x197, x198, x199, x200, x201, x202, x203, x204, x205, x206, x207, x208, x209, x210, x211, x212, x213, x214, x215, x216, x217, x218, x219, x220, x221, x222, x223, x224, x225, x226, x227, x228, x229, x230, x231, x232, x233, x234, x235, x236, x237, x238, x239, x240, x241, x242, x243, x244, x245, x246, x247, x248, x249, x250, x251, x252, x253, x254, x255, x256, x257, x258, x259, x260, x261, x262, x263, x264, x265, x266, x267, x268, x269, x270, x271, x272, x273, x274, x275, x276, x277, x278, x279, x280, x281, x282, x283, x284, x285, x286, x287, x288, x289, x290, x291, x292, x293, x294, x295, x296, x297, x298, x299, x300, x301, x302, x303, x304, x305, x306, x307, x308, x309, x310, x311, x312, x313, x314, x315, x316, x317, x318, x319, x320, x321, x322, x323, x324, x325, x326, x327, x328, x329, x330, x331, x332, x333, x334, x335, x336, x337, x338, x339, x340, x341, x342, x343, x344, x345, x346, x347, x348, x349, x350, x351, x352, x353, x354, x355, x356, x357, x358, x359, x360, x361, x362, x363, x364, x365, x366, x367, x368, x369, x370, x371, x372, x373, x374, x375, x376, x377, x378, x379, x380, x381, x382, x383, x384, x385, x386, x387, x388, x389, x390, x391, x392, x393, x394, x395, x396, x397, x398, x399, x400, x401, x402, x403, x404, x405, x406, x407, x408, x409, x410, x411, x412, x413, x414, x415, x416, x417, x418, x419, x420, x421, x422, x423, x424, x425, x426, x427, x428, x429, x430, x431, x432, x433, x434, x435, x436, x437, x438, x439, x440, x441, x442, x443, x444, x445, x446, x447, x448, x449, x450, x451, x452, x453, x454, x455, x456, x457, x458, x459, x460, x461, x462, x463, x464, x465, x466, x467, x468, x469, x470, x471, x472, x473, x474, x475, x476, x477, x478, x479, x480, x481, x482, x483, x484, x485, x486, x487, x488, x489, x490, x491, x492, x493, x494, x495, x496, x497, x498, x499, x500, x501, x502, x503, x504, x505, x506, x507, x508, x509, x510, x511, x512, x513, x514, x515, x516, x517, x518, x519, x520, x521, x522, x523, x524, x525, x526, x527, x528, x529, x530, x531, x532, x533, x534, x535, x536, x537, x538, x539, x540, x541, x542, x543, x544, x545, x546, x547, x548, x549, x550, x551, x552, x553, x554, x555, x556, x557, x558, x559, x560, x561, x562, x563, x564, x565, x566, x567, x568, x569, x570, x571, x572, x573, x574, x575, x576, x577, x578, x579, x580, x581, x582, x583, x584, x585, x586, x587, x588, x589, x590, x591, x592, x593, x594, x595, x596, x597, x598, x599, x600, x601, x602, x603, x604, x605, x606, x607, x608, x609, x610, x611, x612, x613, x614, x615, x616, x617, x618, x619, x620, x621, x622, x623, x624, x625, x626, x627, x628, x629, x630, x631, x632, x633, x634, x635, x636, x637, x638, x639, x640, x641, x642, x643, x644, x645, x646, x647, x648, x649, x650, x651, x652, x653, x654, x655, x656, x657, x658, x659, x660, x661, x662, x663], []⟩ ws := by
  conv at hxy => lhs; whnf
  injection hxy with hx1 hx2
  subst hx1
  subst hx2
  have HBu1 := hid hbu
  have HBE : Hid (Below B wc ws) := hbu.below
  have hBs : B ≤ ws.heap.size := hbu.shelf.below
  have HR := hid hR
  have HBq := hid hBq
  have HLe := hid hLe
  have HSm := hid hSm
  have HG := hid hG
  have HI := hid hI
  have HB0 := hid hb0
  clear hbu hR hBq hLe hSm hG hI hb0
  obtain ⟨i9, hinf9, _, hz9, _⟩ := info_parts Try.info9
  obtain ⟨i3, hinf3, _, hz3, _⟩ := info_parts Try.info3
  have hm1 := run_make_none (P := Try.prog) 22 9 (.string ByteArray.empty) 16 Try.underlying22 Try.info9 rfl s (by omega) (by omega)
  have hm2 := run_make_none (P := Try.prog) 62 3 (.int .i64 0) 8 Try.underlying62 Try.info3 rfl s (by omega) (by omega)
  have hm3 := run_make_none (P := Try.prog) 22 9 (.string ByteArray.empty) 16 Try.underlying22 Try.info9 rfl g (by omega) (by omega)
  have hm4 := run_make_none (P := Try.prog) 62 3 (.int .i64 0) 8 Try.underlying62 Try.info3 rfl g (by omega) (by omega)
  have HP0 := hid (prows_made ws s g (by omega) (by omega))
  go_wp2_with fail
  clear hm1 hm2 hm3 hm4
  have HEs := hid (rfl : ws.heap.size = ws.heap.size)
  generalize hE : ws.heap.size = E at *
  have HEq := hid hE
  clear hE HEs
  go_loopw [21, 22, 23, 24, 25, 26, 27, 292] (fun a1 a2 a3 a4 a5 a6 a7 vj wr => ∃ j m u : Nat, vj = .int .i64 j ∧ j ≤ k ∧ a1 = .slice (some ⟨E, 0, none⟩) m s ∧ a2 = .slice (some ⟨E + 1, 0, none⟩) m s ∧ a3 = .slice (some ⟨E + 2, 0, none⟩) m s ∧ a4 = .slice (some ⟨E + 3, 0, none⟩) m s ∧
      a5 = .slice (some ⟨E + 4, 0, none⟩) u g ∧ a6 = .slice (some ⟨E + 5, 0, none⟩) u g ∧ a7 = .slice (some ⟨E + 6, 0, none⟩) u g ∧ Hid (PRows ws wr E s g m (allF D j) u (allU D j))) (fun _ _ _ _ _ _ _ vj _ => k - (intOf vj).toNat)
  case atStart => exact ⟨0, 0, 0, rfl, Nat.zero_le _, rfl, rfl, rfl, rfl, rfl, rfl, rfl, HP0⟩
  case round =>
    clear HP0
    obtain ⟨j, m, u, rfl, hj, rfl, rfl, rfl, rfl, rfl, rfl, rfl, HPr⟩ := hrel
    by_cases hlt : j < k
    · have HRr : Hid (Reads wr pc k D Xc) := HR.out.below (by rw [HBq.out]; exact HBE.out.trans (HPr.out.below.mono hBs))
      obtain ⟨b, off, hpe, _, _, _, _, c4⟩ := HRr.out.at_ j hlt
      subst hpe
      have hgm := (HSm.out j hlt).2.1
      go_wp2_with fail
      go_loopw [21, 22, 23, 24, 25, 26, 27, 301] (fun a1 a2 a3 a4 a5 a6 a7 vi wr => ∃ i m u : Nat, vi = .int .i64 i ∧ i ≤ D.gn j ∧ a1 = .slice (some ⟨E, 0, none⟩) m s ∧ a2 = .slice (some ⟨E + 1, 0, none⟩) m s ∧ a3 = .slice (some ⟨E + 2, 0, none⟩) m s ∧ a4 = .slice (some ⟨E + 3, 0, none⟩) m s ∧
          a5 = .slice (some ⟨E + 4, 0, none⟩) u g ∧ a6 = .slice (some ⟨E + 5, 0, none⟩) u g ∧ a7 = .slice (some ⟨E + 6, 0, none⟩) u g ∧ Hid (PRows ws wr E s g m (allF D j ++ upF (D.t j) (D.a j) (D.is j) j i) u (allU D j ++ upU (D.t j) (D.a j) j i))) (fun _ _ _ _ _ _ _ vi _ => D.gn j - (intOf vi).toNat)
      case atStart => exact ⟨0, m, u, rfl, Nat.zero_le _, rfl, rfl, rfl, rfl, rfl, rfl, rfl, by have := HPr.out; show PRows _ _ _ _ _ _ _ _ _; simpa [upF, upU] using this⟩
      case round =>
        clear HPr HRr c4
        obtain ⟨i, m, u, rfl, hi, rfl, rfl, rfl, rfl, rfl, rfl, rfl, HPr⟩ := hrel
        by_cases hig : i < D.gn j
        · have HRr : Hid (Reads wr (some ⟨b, off, none⟩) k D Xc) := HR.out.below (by rw [HBq.out]; exact HBE.out.trans (HPr.out.below.mono hBs))
          obtain ⟨b', off', e', _, _, _, _, c4⟩ := HRr.out.at_ j hlt
          injection e' with e'
          injection e' with e1 e2
          subst e1
          subst e2
          obtain ⟨b6, off6, hpe, e0, e1, e2⟩ := HRr.out.gr j hlt i hig
          generalize Xc.gp j = gp at c4 hpe
          subst hpe
          have HPx := hid (HPr.out.later (World.grownBy_alloc wr (.cells #[.string (D.t j i), .bool (D.a j i), .slice (Xc.ip j i) (D.inn j i) (Xc.ic j i)] 48) none))
          have HRx : Hid (Reads (wr.alloc (.cells #[.string (D.t j i), .bool (D.a j i), .slice (Xc.ip j i) (D.inn j i) (Xc.ic j i)] 48)) (some ⟨b, off, none⟩) k D Xc) := HR.out.below (by rw [HBq.out]; exact HBE.out.trans (HPx.out.below.mono hBs))
          have hEr := HPr.out.size
          have HG0 := hid (heap_alloc_new wr (.cells #[.string (D.t j i), .bool (D.a j i), .slice (Xc.ip j i) (D.inn j i) (Xc.ic j i)] 48))
          have x0 : (wr.alloc (.cells #[.string (D.t j i), .bool (D.a j i), .slice (Xc.ip j i) (D.inn j i) (Xc.ic j i)] 48)).cell? ⟨wr.heap.size, 0, none⟩ = some (.string (D.t j i)) := by rw [cell_of_row _ _ _ _ _ _ (heap_alloc_new wr _)]; rfl
          have HLf := hid (partF_len HLe.out hlt (i := i + 1) (by omega))
          have HLu := hid (partU_len D hlt (i := i + 1) (by omega))
          clear HPr HRr
          cases hA : D.a j i with
          | true =>
            rw [hA] at e1
            rw [hA] at HPx HRx x0 HG0
            have hu : u + 1 ≤ g := by
              have h1 := HLu.out
              have h2 := HPx.out.lenU
              rw [upU_succ, gU, if_pos hA, ← HG.out, ← List.append_assoc, List.length_append, h2] at h1
              simpa using h1
            go_upto_region 81 with fail
            generalize wr.alloc (.cells #[.string (D.t j i), .bool true, .slice (Xc.ip j i) (D.inn j i) (Xc.ic j i)] 48) = wx at *
            generalize hgx : wr.heap.size = g30 at *
            clear e0 e1 e2 c4 hgx HG0
            obtain ⟨FL, hFL⟩ : ∃ FL, FL = allF D j ++ upF (D.t j) (D.a j) (D.is j) j i := ⟨_, rfl⟩
            obtain ⟨UL, hUL⟩ : ∃ UL, UL = allU D j ++ upU (D.t j) (D.a j) j i := ⟨_, rfl⟩
            rw [← hFL, ← hUL] at HPx
            have HFL := hid hFL
            have HUL := hid hUL
            clear hFL hUL
            go_wp2_with (at_builtin; refine wpList_append_fits _ rfl (.tmp 314) (.tmp 317) 22 rfl (E + 4) 9 i9 1 Try.underlying22 hinf9 hz9 (E + 4) u g _ rfl (World.ownsRow.alloc (HPx.out.ut) _) ⟨wx.heap.size, 0, none⟩ 1 1 [.string (D.t j i)] rfl rfl (cell_one_new _ _ _) (one_str _) (by omega) ?_)
            intro w2 own1 gr1
            go_wp2_with (at_builtin; refine wpList_append_fits _ rfl (.tmp 319) (.tmp 321) 62 rfl (E + 5) 3 i3 1 Try.underlying62 hinf3 hz3 (E + 5) u g _ rfl (World.ownsRow.alloc (HPx.out.us.over gr1 (by omega)) _) ⟨w2.heap.size, 0, none⟩ 1 1 [.int .i64 (j : Int)] rfl rfl (cell_one_new _ _ _) (one_int _) (by omega) ?_)
            intro w3 own2 gr2
            go_wp2_with (at_builtin; refine wpList_append_fits _ rfl (.tmp 323) (.tmp 325) 62 rfl (E + 6) 3 i3 1 Try.underlying62 hinf3 hz3 (E + 6) u g _ rfl (World.ownsRow.alloc ((HPx.out.ug.over gr1 (by omega)).over gr2 (by omega)) _) ⟨w3.heap.size, 0, none⟩ 1 1 [.int .i64 (i : Int)] rfl rfl (cell_one_new _ _ _) (one_int _) (by omega) ?_)
            intro w4 own3 gr3
            have HPn := hid (HPx.out.pushU ((D.t j i, ByteArray.empty), (j, i)) gr1 own1 gr2 own2 gr3 own3)
            rw [HUL.out, HFL.out, List.append_assoc, show upU (D.t j) (D.a j) j i ++ [((D.t j i, ByteArray.empty), (j, i))] = upU (D.t j) (D.a j) j (i + 1) by rw [upU_succ, gU, if_pos hA], show upF (D.t j) (D.a j) (D.is j) j i = upF (D.t j) (D.a j) (D.is j) j (i + 1) by rw [upF_succ, gF, if_pos hA, List.append_nil]] at HPn
            clear own1 own2 own3 gr1 gr2 gr3
            go_wp2
            go_roundw
            case rel => exact ⟨i + 1, m, u + 1, by go_num, by omega, rfl, rfl, rfl, rfl, rfl, rfl, rfl, HPn⟩
            case measure => simp [intOf]; omega
          | false =>
            rw [hA] at e1
            rw [hA] at HPx HRx x0 HG0
            have HFs : Hid (upF (D.t j) (D.a j) (D.is j) j (i + 1) = upF (D.t j) (D.a j) (D.is j) j i ++ (D.is j i).map (fun x => ((D.t j i, x), (j, i)))) := by show _ = _; rw [upF_succ, gF, if_neg (by rw [hA]; simp)]
            have HUs : Hid (upU (D.t j) (D.a j) j (i + 1) = upU (D.t j) (D.a j) j i) := by show _ = _; rw [upU_succ, gU, if_neg (by rw [hA]; simp), List.append_nil]
            have HLi := hid (HLe.out j hlt i hig)
            have hinn := ((HSm.out j hlt).2.2 i hig).2.1
            clear hA
            go_wp2_with fail
            generalize wr.alloc (.cells #[.string (D.t j i), .bool false, .slice (Xc.ip j i) (D.inn j i) (Xc.ic j i)] 48) = wx at *
            generalize hgx : wr.heap.size = g30 at *
            clear e0 e1 e2 c4 hgx HG0
            go_loopw [21, 22, 23, 24, 330] (fun a1 a2 a3 a4 vq wr => ∃ q m : Nat, vq = .int .i64 q ∧ q ≤ D.inn j i ∧ a1 = .slice (some ⟨E, 0, none⟩) m s ∧ a2 = .slice (some ⟨E + 1, 0, none⟩) m s ∧ a3 = .slice (some ⟨E + 2, 0, none⟩) m s ∧ a4 = .slice (some ⟨E + 3, 0, none⟩) m s ∧
                Hid (PRows ws wr E s g m (allF D j ++ upF (D.t j) (D.a j) (D.is j) j i ++ ((D.is j i).take q).map (fun x => ((D.t j i, x), (j, i)))) u (allU D j ++ upU (D.t j) (D.a j) j i)) ∧ Hid (wr.cell? ⟨g30, 0, none⟩ = some (.string (D.t j i)))) (fun _ _ _ _ vq _ => D.inn j i - (intOf vq).toNat)
            case atStart => exact ⟨0, m, rfl, Nat.zero_le _, rfl, rfl, rfl, rfl, by have := HPx.out; show PRows _ _ _ _ _ _ _ _ _; simpa using this, x0⟩
            case round =>
              clear HPx x0 HRx
              obtain ⟨q, m, rfl, hq, rfl, rfl, rfl, rfl, HPq, HXq⟩ := hrel
              by_cases hql : q < D.inn j i
              · have HRq : Hid (Reads wr (some ⟨b, off, none⟩) k D Xc) := HR.out.below (by rw [HBq.out]; exact HBE.out.trans (HPq.out.below.mono hBs))
                obtain ⟨b7, off7, hpe, hcc⟩ := (HRq.out.ids j hlt i hig).at_ q hql
                have hcell := hcc q hql
                generalize Xc.ip j i = ip at hpe
                subst hpe
                have hx0 := HXq.out
                have hqs : q < (D.is j i).length := by rw [HLi.out]; exact hql
                have HTk : Hid (((D.is j i).take (q + 1)).map (fun x => ((D.t j i, x), (j, i))) = ((D.is j i).take q).map (fun x => ((D.t j i, x), (j, i))) ++ [((D.t j i, (D.is j i).getD q ByteArray.empty), (j, i))]) := by
                  show _ = _
                  rw [List.take_succ_eq_append_getElem hqs, getD_eq hqs, List.map_append]
                  rfl
                have hms : m + 1 ≤ s := by
                  have h1 := HLf.out
                  have h2 := HPq.out.lenF
                  rw [HFs.out, ← HI.out, ← List.append_assoc, List.length_append, List.length_map, HLi.out] at h1
                  rw [List.length_append, List.length_map, List.length_take] at h2
                  omega
                have hEw := HPq.out.size
                clear hcc HRq
                generalize (D.is j i).getD q ByteArray.empty = idv at hcell HTk
                have hg30 : g30 < wr.heap.size := World.block_lt_of_cell? wr _ hx0
                obtain ⟨FL, hFL⟩ : ∃ FL, FL = allF D j ++ upF (D.t j) (D.a j) (D.is j) j i ++ ((D.is j i).take q).map (fun x => ((D.t j i, x), (j, i))) := ⟨_, rfl⟩
                rw [← hFL] at HPq
                have HFL := hid hFL
                clear hFL
                go_wp2_with (at_builtin; refine wpList_append_fits _ rfl (.tmp 334) (.tmp 337) 22 rfl (E) 9 i9 1 Try.underlying22 hinf9 hz9 (E) m s _ rfl (World.ownsRow.alloc (HPq.out.t) _) ⟨wr.heap.size, 0, none⟩ 1 1 [.string (D.t j i)] rfl rfl (cell_one_new _ _ _) (one_str _) (by omega) ?_)
                intro w2 own1 gr1
                go_wp2_with (at_builtin; refine wpList_append_fits _ rfl (.tmp 339) (.tmp 341) 22 rfl (E + 1) 9 i9 1 Try.underlying22 hinf9 hz9 (E + 1) m s _ rfl (World.ownsRow.alloc (HPq.out.i.over gr1 (by omega)) _) ⟨w2.heap.size, 0, none⟩ 1 1 [.string idv] rfl rfl (cell_one_new _ _ _) (one_str _) (by omega) ?_)
                intro w3 own2 gr2
                go_wp2_with (at_builtin; refine wpList_append_fits _ rfl (.tmp 343) (.tmp 345) 62 rfl (E + 2) 3 i3 1 Try.underlying62 hinf3 hz3 (E + 2) m s _ rfl (World.ownsRow.alloc ((HPq.out.s.over gr1 (by omega)).over gr2 (by omega)) _) ⟨w3.heap.size, 0, none⟩ 1 1 [.int .i64 (j : Int)] rfl rfl (cell_one_new _ _ _) (one_int _) (by omega) ?_)
                intro w4 own3 gr3
                go_wp2_with (at_builtin; refine wpList_append_fits _ rfl (.tmp 347) (.tmp 349) 62 rfl (E + 3) 3 i3 1 Try.underlying62 hinf3 hz3 (E + 3) m s _ rfl (World.ownsRow.alloc (((HPq.out.g.over gr1 (by omega)).over gr2 (by omega)).over gr3 (by omega)) _) ⟨w4.heap.size, 0, none⟩ 1 1 [.int .i64 (i : Int)] rfl rfl (cell_one_new _ _ _) (one_int _) (by omega) ?_)
                intro w5 own4 gr4
                have HPn := hid (HPq.out.pushF ((D.t j i, idv), (j, i)) gr1 own1 gr2 own2 gr3 own3 gr4 own4)
                have HXn := hid (cell_over (cell_over (cell_over (cell_over hx0 gr1 (by show g30 ≠ E; omega)) gr2 (by show g30 ≠ E + 1; omega)) gr3 (by show g30 ≠ E + 2; omega)) gr4 (by show g30 ≠ E + 3; omega))
                rw [HFL.out, List.append_assoc, ← HTk.out] at HPn
                clear own1 own2 own3 own4 gr1 gr2 gr3 gr4
                go_wp2
                go_roundw
                case rel => exact ⟨q + 1, m + 1, by go_num, by omega, rfl, rfl, rfl, rfl, HPn, HXn⟩
                case measure => simp [intOf]; omega
              · have HPe : Hid (PRows ws wr E s g m (allF D j ++ upF (D.t j) (D.a j) (D.is j) j (i + 1)) u (allU D j ++ upU (D.t j) (D.a j) j (i + 1))) := by
                  have h1 := HPq.out
                  rw [List.take_of_length_le (by rw [HLi.out]; omega), List.append_assoc, ← HFs.out, ← HUs.out] at h1
                  exact h1
                go_wp2
                go_roundw
                case rel => exact ⟨i + 1, m, u, by go_num, by omega, rfl, rfl, rfl, rfl, rfl, rfl, rfl, HPe⟩
                case measure => simp [intOf]; omega
        · have e : i = D.gn j := by omega
          have HPe : Hid (PRows ws wr E s g m (allF D (j + 1)) u (allU D (j + 1))) := by
            have := HPr.out
            rw [e] at this
            rw [allF_succ, allU_succ]
            exact this
          go_wp2
          go_roundw
          case rel => exact ⟨j + 1, m, u, by go_num, by omega, rfl, rfl, rfl, rfl, rfl, rfl, rfl, HPe⟩
          case measure => simp [intOf]; omega
    · have e4 : k = j := by omega
      subst e4
      obtain ⟨wF, hwF⟩ : ∃ wF, wF = wr := ⟨_, rfl⟩
      subst hwF
      have HBF := hid (HBu1.out.over (by rw [HEq.out]; exact HPr.out.below))
      have HSh : Hid (Shelf wF B (B + 2) B (B + 1) col st (allF D k) (allU D k)) := HBF.out.shelf
      have HRF : Hid (Reads wF pc k D Xc) := HR.out.below (by rw [HBq.out]; exact HBF.out.below)
      have HB0F : Hid (Below w0.heap.size w0 wF) := HB0.out.trans (HBF.out.below.mono (by rw [← HBq.out]; exact HB0.out.size))
      have hmF : m ≤ 4096 := by
        have h1 := HPr.out.lenF
        have h2 := allF_len HLe.out k (Nat.le_refl _)
        rw [← HI.out] at h2
        omega
      have huF : u ≤ 4096 := by
        have h1 := HPr.out.lenU
        have h2 := allU_len D k
        rw [← HG.out] at h2
        omega
      have CS := hid (setCount_w HSh.out)
      rw [HBF.out.len] at CS
      clear hj hlt HBu1 HBE
      go_wp2_with fail
      refine CS.out.mono ?_
      clear CS
      rintro e w' ⟨rfl, rfl⟩
      go_wp2_with fail
      go_loopw [361] (fun vj wr => ∃ j : Nat, vj = .int .i64 j ∧ j ≤ k ∧ Hid (w'.grownBy wr none)) (fun vj _ => k - (intOf vj).toNat)
      case atStart => exact ⟨0, rfl, Nat.zero_le _, grownBy_refl _ _⟩
      case round =>
        obtain ⟨j, rfl, hj, HG1⟩ := hrel
        have HSr := hid (HSh.out.grown HG1.out)
        by_cases hlt : j < k
        · obtain ⟨sx, hsx, hst⟩ := HBF.out.sto j hlt
          have HStr := hid (hst.later HG1.out)
          have HSX := hid hsx
          have HRr := hid (HRF.out.later HG1.out)
          obtain ⟨b, off, hpe, hsc⟩ := HRr.out.at_ j hlt
          have C30 := hid (set_read HSr.out hsx HStr.out)
          have HLr := hid (HRr.out.lic j hlt)
          have hln := (HSm.out j hlt).1.1
          have hgm := (HSm.out j hlt).2.1
          generalize pc = pc' at *
          subst hpe
          clear hst hsx
          go_wp2_with fail
          refine C30.out.mono ?_
          clear C30
          rintro e w2 ⟨rfl, h2⟩
          obtain ⟨d0, d1, d2, d3, d4⟩ := hsc.below (below_none h2)
          have C31 := hid (sameStrings_w sx.lp (Xc.lp j) (D.ln j) sx.lc (Xc.lc j) (D.ls j) w2 (HStr.out.lic.kept h2 (by simp)) (HLr.out.kept h2 (by simp)) hln HStr.out.licn)
          have HSC := hid (hsc.below (below_none h2))
          have HG2 := hid (grownBy_trans HG1.out h2)
          clear h2 hsc
          go_wp2_with fail
          refine C31.out.mono ?_
          clear C31
          rintro e w3 ⟨rfl, h3⟩
          clear d0 d1 d2 d3 d4
          obtain ⟨_, _, _, _, d4⟩ := HSC.out.below (below_none h3)
          have HG3 := hid (grownBy_trans HG2.out h3)
          clear h3 HSC
          go_wp2_with fail
          go_loopw [422] (fun vi wr => ∃ i : Nat, vi = .int .i64 i ∧ i ≤ D.gn j ∧ Hid (w'.grownBy wr none)) (fun vi _ => D.gn j - (intOf vi).toNat)
          case atStart => exact ⟨0, rfl, Nat.zero_le _, HG3⟩
          case round =>
            clear HG1 HG2 HG3 HSr HStr HRr HLr d4
            obtain ⟨i, rfl, hi, HG1⟩ := hrel
            by_cases hig : i < D.gn j
            · have HSr := hid (HSh.out.grown HG1.out)
              have HRr := hid (HRF.out.later HG1.out)
              obtain ⟨sy, hsy, hst⟩ := HBF.out.sto j hlt
              obtain ⟨ip, ic, hgr, hgi⟩ := (hst.later HG1.out).gr
              obtain ⟨b', off', e', hsc⟩ := HRr.out.at_ j hlt
              injection e' with e'
              injection e' with e1 e2
              subst e1
              subst e2
              obtain ⟨b6, off6, hpe, hgc⟩ := HRr.out.gr j hlt i hig
              have HPE := hid hpe
              clear hpe
              have C32 := hid (shelfGrant_w HSr.out j sy hsy hst.gn hgr i hig)
              have HIs := hid (hgr.ids i hig).1
              have HIc := hid (HRr.out.ids j hlt i hig)
              have HNi := hid (hgi i hig).1
              have hinn := ((HSm.out j hlt).2.2 i hig).2.1
              have hss : ((D.t j i).toList == (D.t j i).toList) = true := (beq_bytes _ _).2 rfl
              clear hst hsy hgr hgi
              go_wp2_with fail
              refine C32.out.mono ?_
              clear C32
              rintro e w2 ⟨rfl, h2⟩
              obtain ⟨_, _, _, _, d4⟩ := hsc.below (below_none h2)
              obtain ⟨e0, e1, e2⟩ := hgc.below (below_none h2)
              rw [HPE.out] at d4
              have hA := World.grownBy_alloc w2 (.cells #[.string (D.t j i), .bool (D.a j i), .slice (Xc.ip j i) (D.inn j i) (Xc.ic j i)] 48) none
              have HG2 := hid (grownBy_trans (grownBy_trans HG1.out h2) hA)
              have C31 := hid (sameStrings_w (ip i) (Xc.ip j i) (D.inn j i) (ic i) (Xc.ic j i) (D.is j i) (w2.alloc (.cells #[.string (D.t j i), .bool (D.a j i), .slice (Xc.ip j i) (D.inn j i) (Xc.ic j i)] 48)) ((HIs.out.kept h2 (by simp)).kept hA (by simp)) ((HIc.out.kept h2 (by simp)).kept hA (by simp)) hinn HNi.out)
              clear h2 hsc hgc hA
              go_wp2_with fail
              refine C31.out.mono ?_
              clear C31
              rintro e w3 ⟨rfl, h3⟩
              have HG3 := hid (grownBy_trans HG2.out h3)
              clear h3 d4 e0 e1 e2
              go_wp2
              go_roundw
              case rel => exact ⟨i + 1, by go_num, by omega, HG3⟩
              case measure => simp [intOf]; omega
            · go_wp2
              go_roundw
              case rel => exact ⟨j + 1, by go_num, by omega, HG1⟩
              case measure => simp [intOf]; omega
        · have HPw := hid (HPr.out.later HG1.out)
          go_upto_region 113 with fail
          exact tail113 w0 _ ws B E s g m u col st _ _ HSr.out HPw.out hmF huF (keysF HLe.out HSm.out) (keysU HSm.out) (Done.of HB0F.out HG1.out) _ _ rfl _ (by assumption) _ _ _ _ _ _ _ _ _ _ _ _ _ _ _ _ _ _ _ _ _ _ _ _ _ _ _ _ _ _ _ _ _ _ _ _ _ _ _ _ _ _ _ _ _ _ _ _ _ _ _ _ _ _ _ _ _ _ _ _ _ _ _ _ _ _ _ _ _ _ _ _ _ _ _ _ _ _ _ _ _ _ _ _ _ _ _ _ _ _ _ _ _ _ _ _ _ _ _ _ _ _ _ _ _ _ _ _ _ _ _ _ _ _ _ _ _ _ _ _ _ _ _ _ _ _ _ _ _ _ _ _ _ _ _ _ _ _ _ _ _ _ _ _ _ _ _ _ _ _ _ _ _ _ _ _ _ _ _ _ _ _ _ _ _ _ _ _ _ _ _ _ _ _ _ _ _ _ _ _ _ _ _ _ _ _ _ _ _ _ _ _ _ _ _ _ _ _ _ _ _ _ _ _ _ _ _ _ _ _ _ _ _ _ _ _ _ _ _ _ _ _ _ _ _ _ _ _ _ _ _ _ _ _ _ _ _ _ _ _ _ _ _ _ _ _ _ _ _ _ _ _ _ _ _ _ _ _ _ _ _ _ _ _ _ _ _ _ _ _ _ _ _ _ _ _ _ _ _ _ _ _ _ _ _ _ _ _ _ _ _ _ _ _ _ _ _ _ _ _ _ _ _ _ _ _ _ _ _ _ _ _ _ _ _ _ _ _ _ _ _ _ _ _ _ _ _ _ _ _ _ _ _ _ _ _ _ _ _ _ _ _ _ _ _ _ _ _ _ _ _ _ _ _ _ _ _ _ _ _ _ _ _ _ _ _ _ _ _ _ _ _ _ _ _ _ _ _ _ _ _ _ _ _ _ _ _ _ _ _ _ _ _ _ _ _ _ _ _ _ _ _ _ _ _ _ _ _ _ _ _ _ _ _ _ _ _ _ _ _ _ _ _ _ _ _ _ _ _ _ _ _ _ _ _ _ _ _ _ _ _ _ _ _ _ _ _ _ _ _ _ _ _ _ _ _ _ _ _ _ _ _ _ _ _ _ _ _ _ _ _ _ _ _ _ _ _ _ _ _ _ _ _ _ _ _ _ _ _ _ _ _ _ _ _ _ _ _ _ _ _ _ _ _ _ _ _ _ _ _ _ _ _ _ _ _ _ _ _ _ _ _ _ _ _ _ _ _ _ _ _ _ _ _ _ _ _ _ _ _ _ _ _ _ _ _ _ _ _ _ _ _ _ _ _ _ _ _ _ _ _ _ _ _ _ _ _ _ _ _ _ _ _ _ _ _ _ _ _ _ _ _ _ _ _ _ _ _ _ _ _ _ _ _ _ _ _ _ _ _ _ _ _ _ _ _ _ _ _ _ _ _ _ _ _ _ _ _ _ _ _ _ _ _ _ _ _ _ _ _ _ _ _ _ _ _ _ _ _ _ _ _ _ _ _ _ _ _ _ _ _ _ _ _ _ _
end Go.Proofs.Qxb6602790a
