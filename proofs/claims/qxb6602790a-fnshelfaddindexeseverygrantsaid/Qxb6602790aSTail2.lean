import Derived.Test.Qxb6602790aSTail1
import Derived.Deep.Cut
import Derived.Deep.RegionHeld3
namespace Go.Proofs.Qxb6602790a
open Go.RowKit Go.Deep SLaw
attribute [local go_sem ↓] Go.wp_at_zero Go.wp_at_succ

set_option maxHeartbeats 64000000 in
set_option maxRecDepth 1000000 in
/-- THE CHECK OF THE LISTED INDEX, AND WHAT FOLLOWS. -/
theorem tail113 (w0 wF ws : World) (B E s g m u : Nat) (col : Nat → Nat) (st : List Sto) (F U : List (K × R)) (hsh : Shelf wF B (B + 2) B (B + 1) col st F U) (hpr : PRows ws wF E s g m F u U) (hm : m ≤ 4096) (hu : u ≤ 4096) (hkF : Keys1M F) (hkU : ∀ (i : Nat) (x : K × R), U[i]? = some x → x.1.1.size ≤ 1048576 ∧ x.1.2 = ByteArray.empty)
    (hb0 : Below w0.heap.size w0 wF) (x y : Code) (hxy : dropTo 113 (Try.f7.body.getD .skip) = .seq x y) (K : Act → World → Prop) (hK : ∀ a w, Code.wp Try.prog y (bodyPost Try.prog Try.f7 (Done w0)) a w → K a w)
    (x0 x1 x2 x3 x4 x5 x6 x7 x8 x9 x10 x11 x12 x13 x14 x15 x17 x18 x19 x20 x28 x29 x30 x31 x32 x33 x34 x35 x36 x37 x38 x39 x40 x41 x42 x43 x44 x45 x46 x47 x48 x49 x50 x51 x52 x53 x54 x55 x56 x57 x58 x59 x60 x61 x62 x63 x64 x65 x66 x67 x68 x69 x70 x71 x72 x73 x74 x75 x76 x77 x78 x79 x80 x81 x82 x83 x84 x85 x86 x87 x88 x89 x90 x91 x92 x93 x94 x95 x96 x97 x98 x99 x100 x101 x102 x103 x104 x105 x106 x107 x108 x109 x110 x111 x112 x113 x114 x115 x116 x117 x118 x119 x120 x121 x122 x123 x124 x125 x126 x127 x128 x129 x130 x131 x132 x133 x134 x135 x136 x137 x138 x139 x140 x141 x142 x143 x144 x145 x146 x147 x148 x149 x150 x151 x152 x153 x154 x155 x156 x157 x158 x159 x160 x161 x162 x163 x164 x165 x166 x167 x168 x169 x170 x171 x172 x173 x174 x175 x176 x177 x178 x179 x180 x181 x182 x183 x184 x185 x186 x187 x188 x189 x190 x191 x192 x193 x194 x195 x196 x197 x198 x199 x200 x201 x202 x203 x204 x205 x206 x207 x208 x209 x210 x211 x212 x213 x214 x215 x216 x217 x218 x219 x220 x221 x222 x223 x224 x225 x226 x227 x228 x229 x230 x231 x232 x233 x234 x235 x236 x237 x238 x239 x240 x241 x242 x243 x244 x245 x246 x247 x248 x249 x250 x251 x252 x253 x254 x255 x256 x257 x258 x259 x260 x261 x262 x263 x264 x265 x266 x267 x268 x269 x270 x271 x272 x273 x274 x275 x276 x277 x278 x279 x280 x281 x282 x283 x284 x285 x286 x287 x288 x289 x290 x291 x292 x293 x294 x295 x296 x297 x298 x299 x300 x301 x302 x303 x304 x305 x306 x307 x308 x309 x310 x311 x312 x313 x314 x315 x316 x317 x318 x319 x320 x321 x322 x323 x324 x325 x326 x327 x328 x329 x330 x331 x332 x333 x334 x335 x336 x337 x338 x339 x340 x341 x342 x343 x344 x345 x346 x347 x348 x349 x350 x351 x352 x353 x354 x355 x356 x357 x358 x359 x360 x361 x362 x363 x364 x365 x366 x367 x368 x369 x370 x371 x372 x373 x374 x375 x376 x377 x378 x379 x380 x381 x382 x383 x384 x385 x386 x387 x388 x389 x390 x391 x392 x393 x394 x395 x396 x397 x398 x399 x400 x401 x402 x403 x404 x405 x406 x407 x408 x409 x410 x411 x412 x413 x414 x415 x416 x417 x418 x419 x420 x421 x422 x423 x424 x425 x426 x427 x428 x429 x430 x431 x432 x433 x434 x435 x436 x437 x438 x439 x440 x441 x442 x443 x444 x445 x446 x447 x448 x449 x450 x451 x452 x453 x454 x455 x456 x457 x458 x459 x460 x461 x462 x463 x464 x465 x466 x467 x468 x469 x470 x471 x472 x473 x474 x475 x476 x477 x478 x479 x480 x481 x482 x483 x484 x485 x486 x487 x488 x489 x490 x491 x492 x493 x494 x495 x496 x497 x498 x499 x500 x501 x502 x503 x504 x505 x506 x507 x508 x509 x510 x511 x512 x513 x514 x515 x516 x517 x518 x519 x520 x521 x522 x523 x524 x525 x526 x527 x528 x529 x530 x531 x532 x533 x534 x535 x536 x537 x538 x539 x540 x541 x542 x543 x544 x545 x546 x547 x548 x549 x550 x551 x552 x553 x554 x555 x556 x557 x558 x559 x560 x561 x562 x563 x564 x565 x566 x567 x568 x569 x570 x571 x572 x573 x574 x575 x576 x577 x578 x579 x580 x581 x582 x583 x584 x585 x586 x587 x588 x589 x590 x591 x592 x593 x594 x595 x596 x597 x598 x599 x600 x601 x602 x603 x604 x605 x606 x607 x608 x609 x610 x611 x612 x613 x614 x615 x616 x617 x618 x619 x620 x621 x622 x623 x624 x625 x626 x627 x628 x629 x630 x631 x632 x633 x634 x635 x636 x637 x638 x639 x640 x641 x642 x643 x644 x645 x646 x647 x648 x649 x650 x651 x652 x653 x654 x655 x656 x657 x658 x659 x660 x661 x662 x663 : Value) :
    Code.wp Try.prog x (Exit.then K (bodyPost Try.prog Try.f7 (Done w0))) ⟨#[x0, x1, x2, x3, x4, x5, x6, x7, x8, x9, x10, x11, x12, x13, x14, x15, .pointer (some ⟨B + 2, 0, none⟩), x17, x18, x19, x20, .slice (some ⟨E, 0, none⟩) m s, .slice (some ⟨E + 1, 0, none⟩) m s, .slice (some ⟨E + 2, 0, none⟩) m s, .slice (some ⟨E + 3, 0, none⟩) m s, .slice (some ⟨E + 4, 0, none⟩) u g, .slice (some ⟨E + 5, 0, none⟩) u g, .slice (some ⟨E + 6, 0, none⟩) u g, x28, x29, x30, x31, x32, x33, x34, x35, x36, x37, x38, x39, x40, x41, x42, x43, x44, x45, x46, x47, x48, x49, x50, x51, x52, x53, x54, x55, x56, x57, x58, x59, x60, x61, x62, x63, x64, x65, x66, x67, x68, x69, x70, x71, x72, x73, x74, x75, x76, x77, x78, x79, x80, x81, x82, x83, x84, x85, x86, x87, x88, x89, x90, x91, x92, x93, x94, x95, x96, x97, x98, x99, x100, x101, x102, x103, x104, x105, x106, x107, x108, x109, x110, x111, x112, x113, x114, x115, x116, x117, x118, x119, x120, x121, x122, x123, x124, x125, x126, x127, x128, x129, x130, x131, x132, x133, x134, x135, x136, x137, x138, x139, x140, x141, x142, x143, x144, x145, x146, x147, x148, x149, x150, x151, x152, x153, x154, x155, x156, x157, x158, x159, x160, x161, x162, x163, x164, x165, x166, x167, x168, x169, x170, x171, x172, x173, x174, x175, x176, x177, x178, x179, x180, x181, x182, x183, x184, x185, x186, x187, x188, x189, x190, x191, x192, x193, x194, x195, x196, x197, x198, x199, x200, x201, x202, x203, x204, x205, x206, x207, x208, x209, x210, x211, x212, x213, x214, x215, x216, x217, x218, x219, x220, x221, x222, x223, x224, x225, x226, x227, x228, x229, x230, x231, x232, x233, x234, x235, x236, x237, x238, x239, x240, x241, x242, x243, x244, x245, x246, x247, x248, x249, x250, x251, x252, x253, x254, x255, x256, x257, x258, x259, x260, x261, x262, x263, x264, x265, x266, x267, x268, x269, x270, x271, x272, x273, x274, x275, x276, x277, x278, x279, x280, x281, x282, x283, x284, x285, x286, x287, x288, x289, x290, x291, x292, x293, x294, x295, x296, x297, x298, x299, x300, x301, x302, x303, x304, x305, x306, x307, x308, x309, x310, x311, x312, x313, x314, x315, x316, x317, x318, x319, x320, x321, x322, x323, x324, x325, x326, x327, x328, x329, x330, x331, x332, x333, x334, x335, x336, x337, x338, x339, x340, x341, x342, x343, x344, x345, x346, x347, x348, x349, x350, x351, x352, x353, x354, x355, x356, x357, x358, x359, x360, x361, x362, x363, x364, x365, x366, x367, x368, x369, x370, x371, x372, x373, x374, x375, x376, x377, x378, x379, x380, x381, x382, x383, x384, x385, x386, x387, x388, x389, x390, x391, x392, x393, x394, x395, x396, x397, x398, x399, x400, x401, x402, x403, x404, x405, x406, x407, x408, x409, x410, x411, x412, x413, x414, x415, x416, x417, x418, x419, x420, x421, x422, x423, x424, x425, x426, x427, x428, x429, x430, x431, x432, x433, x434, x435, x436, x437, x438, x439, x440, x441, x442, x443, x444, x445, x446, x447, x448, x449, x450, x451, x452, x453, x454, x455, x456, x457, x458, x459, x460, x461, x462, x463, x464, x465, x466, x467, x468, x469, x470, x471, x472, x473, x474, x475, x476, x477, x478, x479, x480, x481, x482, x483, x484, x485, x486, x487, x488, x489, x490, x491, x492, x493, x494, x495, x496, x497, x498, x499, x500, x501, x502, x503, x504, x505, x506, x507, x508, x509, x510, x511, x512, x513, x514, x515, x516, x517, x518, x519, x520, x521, x522, x523, x524, x525, x526, x527, x528, x529, x530, x531, x532, x533, x534, x535, x536, x537, x538, x539, x540, x541, x542, x543, x544, x545, x546, x547, x548, x549, x550, x551, x552, x553, x554, x555, x556, x557, x558, x559, x560, x561, x562, x563, x564, x565, x566, x567, x568, x569, x570, x571, x572, x573, x574, x575, x576, x577, x578, x579, x580, x581, x582, x583, x584, x585, x586, x587, x588, x589, x590, x591, x592, x593, x594, x595, x596, x597, x598, x599, x600, x601, x602, x603, x604, x605, x606, x607, x608, x609, x610, x611, x612, x613, x614, x615, x616, x617, x618, x619, x620, x621, x622, x623, x624, x625, x626, x627, x628, x629, x630, x631, x632, x633, x634, x635, x636, x637, x638, x639, x640, x641, x642, x643, x644, x645, x646, x647, x648, x649, x650, x651, x652, x653, x654, x655, x656, x657, x658, x659, x660, x661, x662, x663], []⟩ wF := by
  conv at hxy => lhs; whnf
  injection hxy with hx1 hx2
  subst hx1
  subst hx2
  have HSh := hid hsh
  have HPr := hid hpr
  have HkF := hid hkF
  have HkU := hid hkU
  have HB0 := hid hb0
  have HLf := hid hpr.lenF
  clear hsh hpr hkF hkU hb0
  go_wp2_with fail
  go_loopw [44, 462] (fun vd vq wr => ∃ q d : Nat, vq = .int .i64 q ∧ vd = .int .i64 d ∧ q ≤ m ∧ d ≤ q ∧ Hid (Count F q d) ∧ Hid (wF.grownBy wr none)) (fun _ vq _ => m - (intOf vq).toNat)
  case atStart => exact ⟨0, 0, rfl, rfl, Nat.zero_le _, Nat.zero_le _, Count.zero F, grownBy_refl _ _⟩
  case round =>
    obtain ⟨q, d, rfl, rfl, hq, hd, HC, HG⟩ := hrel
    by_cases hlt : q < m
    · obtain ⟨y, hy⟩ : ∃ y, F[q]? = some y := ⟨_, List.getElem?_eq_getElem (by rw [HLf.out]; exact hlt)⟩
      have HY := hid hy
      have HYk := hid (HkF.out q y hy)
      clear hy
      go_wp2_with fail
      go_loopw [46, 47] (fun vs vr wr => ∃ r : Nat, vs = .bool false ∧ vr = .int .i64 r ∧ r ≤ q ∧ Hid (Fresh F r y.1) ∧ Hid (wF.grownBy wr none)) (fun _ vr _ => q - (intOf vr).toNat)
      case atStart => exact ⟨0, rfl, rfl, Nat.zero_le _, Fresh.zero F y.1, HG⟩
      case round =>
        clear HG
        obtain ⟨r, rfl, rfl, hr, HFr, HG⟩ := hrel
        by_cases hrq : r < q
        · obtain ⟨x, hx⟩ : ∃ x, F[r]? = some x := ⟨_, List.getElem?_eq_getElem (by rw [HLf.out]; omega)⟩
          have HPw := hid (HPr.out.later HG.out)
          obtain ⟨c1, c1', _, _⟩ := HPw.out.atF hx
          obtain ⟨c2, c2', _, _⟩ := HPw.out.atF HY.out
          have HX := hid hx
          clear hx
          cases hb : (x.1.1.toList == y.1.1.toList) with
          | true =>
            cases hb2 : (x.1.2.toList == y.1.2.toList) with
            | true =>
              have HE : Hid (x.1 = y.1) := Prod.ext ((beq_bytes _ _).1 hb) ((beq_bytes _ _).1 hb2)
              have HCo := hid (Count.old' HC.out HY.out HX.out hrq HE.out)
              go_wp2_with fail
              go_quiet (fail)
              go_wp2
              go_roundw
              case rel => exact ⟨q + 1, d, by go_num, rfl, by omega, by omega, HCo, grownBy_drewN HG.out _⟩
              case measure => simp [intOf]; omega
            | false =>
              have HN : Hid (x.1 ≠ y.1) := fun e => (beq_bytes_false _ _).1 hb2 (by rw [e])
              go_wp2_with fail
              go_quiet (fail)
              go_wp2
              go_roundw
              case rel => exact ⟨r + 1, rfl, by go_num, by omega, HFr.out.succ HX.out HN.out, grownBy_drewN HG.out _⟩
              case measure => simp [intOf]; omega
          | false =>
            have HN : Hid (x.1 ≠ y.1) := fun e => (beq_bytes_false _ _).1 hb (by rw [e])
            go_wp2_with fail
            go_quiet (fail)
            go_wp2
            go_roundw
            case rel => exact ⟨r + 1, rfl, by go_num, by omega, HFr.out.succ HX.out HN.out, grownBy_drewN HG.out _⟩
            case measure => simp [intOf]; omega
        · have e : r = q := by omega
          have HN2 := hid (Count.new' HC.out HY.out (by have := HFr.out; rw [e] at this; exact this))
          have HSr := hid (HSh.out.grown HG.out)
          have HPw := hid (HPr.out.later HG.out)
          obtain ⟨c1, c2, _, _⟩ := HPw.out.atF HY.out
          have c1d : wr.drew.cell? _ = _ := c1
          have c2d : wr.drew.cell? _ = _ := c2
          have CU := hid (fun (W : World) (hW : wr.grownBy W none) => listed_w (HSr.out.grown hW) y.1.1 y.1.2 HYk.out (by rw [HLf.out]; omega))
          have HDr : Hid (wr.grownBy wr.drew none) := grownBy_drew (grownBy_refl _ _)
          have q0 : (0 : Int) ≤ (q : Int) := by omega
          have q1 : (q : Int) < (m : Int) := by omega
          clear HFr e
          go_wp2_with fail
          go_region_held3 (fun w' => w'.cell? ⟨E, q, none⟩ = some (.string y.1.1) ∧ w'.cell? ⟨E + 1, q, none⟩ = some (.string y.1.2))
            (first
              | with_reducible exact ⟨c1d, c2d⟩
              | with_reducible exact ⟨y1, y2⟩
              | with_reducible exact ⟨c1, c2⟩)
            ((go_at_call 33; refine (CU.out _ HDr.out).mono ?_; rintro e w2 ⟨b1, b2, rfl, h1, h2⟩; have y1 := (h2.cell_far _ (World.block_lt_of_cell? _ _ c1d) (by simp)).trans c1d; have y2 := (h2.cell_far _ (World.block_lt_of_cell? _ _ c2d) (by simp)).trans c2d))
          have HTR := hid h1
          have HG2 := hid (grownBy_trans HG.out (grown_left' h2))
          have hN : (refs F y.1).length ≤ m := by rw [← HLf.out]; exact refs_len F y.1
          clear h1 h2 c1 c2 c1d c2d y1 y2 HPw HSr CU
          generalize hNe : (refs F (y.1.1, y.1.2)).length = N at *
          have HNe : Hid ((refs F y.1).length = N) := hNe
          have hN' : N ≤ m := hN
          clear hNe hN
          go_wp2_with fail
          go_loopw [50, 51] (fun vc vr wr => ∃ r c : Nat, vr = .int .i64 r ∧ vc = .int .i64 c ∧ q ≤ r ∧ r ≤ m ∧ c ≤ N ∧ Hid (c = (refs (F.take r) y.1).length) ∧ Hid (w2.grownBy wr none)) (fun _ vr _ => m - (intOf vr).toNat)
          case atStart => exact ⟨q, 0, rfl, rfl, Nat.le_refl _, hq, Nat.zero_le _, by show _ = _; rw [HN2.out.2]; rfl, grownBy_refl _ _⟩
          case round =>
            clear HG
            obtain ⟨r, c, rfl, rfl, hqr, hru, hcN, HCc, HG3⟩ := hrel
            have HPw := hid (HPr.out.later (grownBy_trans HG2.out HG3.out))
            by_cases hrl : r < m
            · obtain ⟨x, hx⟩ : ∃ x, F[r]? = some x := ⟨_, List.getElem?_eq_getElem (by rw [HLf.out]; omega)⟩
              obtain ⟨c1, c1', c3, c4⟩ := HPw.out.atF hx
              obtain ⟨c2, c2', _, _⟩ := HPw.out.atF HY.out
              have HX := hid hx
              clear hx
              cases hb : (x.1.1.toList == y.1.1.toList) with
              | true =>
                cases hb2 : (x.1.2.toList == y.1.2.toList) with
                | true =>
                  have HE : Hid (x.1 = y.1) := Prod.ext ((beq_bytes _ _).1 hb) ((beq_bytes _ _).1 hb2)
                  obtain ⟨t1, t2, t3⟩ := refs_hit' HX.out HE.out
                  rw [← HCc.out] at t1 t2 t3
                  rw [HNe.out] at t2
                  obtain ⟨d1, d2⟩ := TwoRows.at_ (rs := refs F y.1) (by rw [HNe.out]; exact HTR.out) HG3.out t3
                  have HT1 := hid t1
                  clear t1 t3
                  have i0 : (0 : Int) ≤ (c : Int) := by omega
                  have i1 : (c : Int) < (N : Int) := by omega
                  go_wp2_with fail
                  go_quiet (fail)
                  go_wp2_with fail
                  go_quiet (fail)
                  go_wp2
                  go_roundw
                  case rel => exact ⟨r + 1, c + 1, by go_num, by go_num, by omega, by omega, by omega, HT1.out.symm, grownBy_drewN HG3.out _⟩
                  case measure => simp [intOf]; omega
                | false =>
                  have HNk : Hid (x.1 ≠ y.1) := fun e => (beq_bytes_false _ _).1 hb2 (by rw [e])
                  go_wp2_with fail
                  go_quiet (fail)
                  go_wp2
                  go_roundw
                  case rel => exact ⟨r + 1, c, by go_num, rfl, by omega, by omega, hcN, by show _ = _; rw [refs_miss' HX.out HNk.out]; exact HCc.out, grownBy_drewN HG3.out _⟩
                  case measure => simp [intOf]; omega
              | false =>
                have HNk : Hid (x.1 ≠ y.1) := fun e => (beq_bytes_false _ _).1 hb (by rw [e])
                go_wp2_with fail
                go_quiet (fail)
                go_wp2
                go_roundw
                case rel => exact ⟨r + 1, c, by go_num, rfl, by omega, by omega, hcN, by show _ = _; rw [refs_miss' HX.out HNk.out]; exact HCc.out, grownBy_drewN HG3.out _⟩
                case measure => simp [intOf]; omega
            · have hcE : c = N := by
                have h1 := HCc.out
                rw [refs_none_take (by rw [HLf.out]; omega), HNe.out] at h1
                exact h1
              subst hcE
              go_wp2
              go_roundw
              case rel => exact ⟨q + 1, d + 1, by go_num, by go_num, by omega, by omega, HN2.out.1, grownBy_trans HG2.out HG3.out⟩
              case measure => simp [intOf]; omega
    · have e : q = m := by omega
      have HSr := hid (HSh.out.grown HG.out)
      have HPw := hid (HPr.out.later HG.out)
      have CK := hid (listedKeys_w HSr.out)
      go_wp2_with fail
      refine CK.out.mono ?_
      rintro e w2 ⟨⟨ks, hks, rfl⟩, rfl⟩
      have hdk : d = ks.length := by
        have h1 := HC.out
        rw [e, ← HLf.out] at h1
        exact h1.all hks
      subst hdk
      clear hks CK
      go_upto_region 141 with fail
      exact tail141 w0 _ ws B E s g m u col st F U HSr.out HPw.out hu HkU.out (Done.of HB0.out HG.out) _ _ rfl _ (by assumption) _ _ _ _ _ _ _ _ _ _ _ _ _ _ _ _ _ _ _ _ _ _ _ _ _ _ _ _ _ _ _ _ _ _ _ _ _ _ _ _ _ _ _ _ _ _ _ _ _ _ _ _ _ _ _ _ _ _ _ _ _ _ _ _ _ _ _ _ _ _ _ _ _ _ _ _ _ _ _ _ _ _ _ _ _ _ _ _ _ _ _ _ _ _ _ _ _ _ _ _ _ _ _ _ _ _ _ _ _ _ _ _ _ _ _ _ _ _ _ _ _ _ _ _ _ _ _ _ _ _ _ _ _ _ _ _ _ _ _ _ _ _ _ _ _ _ _ _ _ _ _ _ _ _ _ _ _ _ _ _ _ _ _ _ _ _ _ _ _ _ _ _ _ _ _ _ _ _ _ _ _ _ _ _ _ _ _ _ _ _ _ _ _ _ _ _ _ _ _ _ _ _ _ _ _ _ _ _ _ _ _ _ _ _ _ _ _ _ _ _ _ _ _ _ _ _ _ _ _ _ _ _ _ _ _ _ _ _ _ _ _ _ _ _ _ _ _ _ _ _ _ _ _ _ _ _ _ _ _ _ _ _ _ _ _ _ _ _ _ _ _ _ _ _ _ _ _ _ _ _ _ _ _ _ _ _ _ _ _ _ _ _ _ _ _ _ _ _ _ _ _ _ _ _ _ _ _ _ _ _ _ _ _ _ _ _ _ _ _ _ _ _ _ _ _ _ _ _ _ _ _ _ _ _ _ _ _ _ _ _ _ _ _ _ _ _ _ _ _ _ _ _ _ _ _ _ _ _ _ _ _ _ _ _ _ _ _ _ _ _ _ _ _ _ _ _ _ _ _ _ _ _ _ _ _ _ _ _ _ _ _ _ _ _ _ _ _ _ _ _ _ _ _ _ _ _ _ _ _ _ _ _ _ _ _ _ _ _ _ _ _ _ _ _ _ _ _ _ _ _ _ _ _ _ _ _ _ _ _ _ _ _ _ _ _ _ _ _ _ _ _ _ _ _ _ _ _ _ _ _ _ _ _ _ _ _ _ _ _ _ _ _ _ _ _ _ _ _ _ _ _ _ _ _ _ _ _ _ _ _ _ _ _ _ _ _ _ _ _ _ _ _ _ _ _ _ _ _ _ _ _ _ _ _ _ _ _ _ _ _ _ _ _ _ _ _ _ _ _ _ _ _ _ _ _ _ _ _ _ _ _ _ _ _ _ _ _ _ _ _ _ _ _ _ _ _ _ _ _ _ _ _ _ _ _ _ _ _ _ _ _ _ _ _ _ _ _ _ _ _ _ _ _ _ _ _ _ _ _ _ _ _ _ _ _ _ _ _ _ _ _ _ _ _ _ _ _ _ _ _ _ _ _ _ _ _ _ _ _ _ _ _ _ _ _ _ _ _ _ _ _ _ _ _ _ _ _ _ _ _ _ _ _ _ _ _ _ _ _ _ _ _ _ _ _ _ _ _ _ _
end Go.Proofs.Qxb6602790a
