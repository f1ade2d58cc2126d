/- spread: the loops over what was gained. -/
import Derived.Test.YbulkuocSpBase
namespace Go.Proofs.Ybulkuoc
open Go.RowKit

theorem St.below {c : Tc} {K : Nat → Option Ent} {v : Tv} {w w' : World} (h : St c K v w) (hb : Below w.heap.size w w') : St c K v w' := h.heap (h.sep.heap (fun _ _ b hk hbk => hb.block b (h.sep.lt hk b hbk).2)) (fun b _ _ _ hblk => hb.block b hblk.lt)

set_option maxRecDepth 40000 in
set_option maxHeartbeats 12800000 in
theorem spF (c : Tc) (K D : Nat → Option Ent) (v : Tv) (w w0 : World) (J : List Nat) (O I : Nat → List Nat) (L : Nat → Int) (B bx : Nat) (bud : Int) (Post : Ending → World → Prop) (h : St c K v w) (hR : Rw c K v D J O I L B (J.length + 2)) (hbox : D 24 = some ⟨28, 1, 1, .slice (some ⟨bx, 0, none⟩) 1 1, [.pointer (some ⟨c.C, 0, none⟩)]⟩) (hLb : ∀ p, -1 ≤ L p ∧ L p ≤ 8) (hB : B ≤ 8000) (hbl : Below c.base w0 w) (hb : c.base ≤ w.heap.size)
    (hP : ∀ w', Below c.base w0 w' → St c K v w' → Post (.returned (.bool true)) w') {x3 x5 x8 x9 x10 x11 x12 x13 x14 x15 x16 x17 x18 x19 x20 x21 x22 x23 x24 x25 x26 x27 x28 x29 x30 x31 x32 x33 x34 x35 x36 x37 x38 x39 x40 x41 x42 x43 x44 x45 x46 x47 x48 x49 x50 x51 x52 x53 x54 x55 x56 x57 x58 x59 x60 x61 x62 x63 x64 x65 x66 x67 x68 x69 x70 x71 x72 x73 x74 x75 x76 x77 x78 x79 x80 x81 x82 x83 x84 x85 x86 x87 x88 x89 x90 x91 x92 x93 x94 x95 x96 x97 x98 x99 x100 x101 x102 x103 x104 x105 x106 x107 x108 x109 x110 x111 x112 x113 x114 x115 x116 x117 x118 x119 x120 x121 x122 x123 x124 x125 x126 x127 x128 x129 x130 x131 x132 x133 x134 x135 x136 x137 x138 x139 x140 x141 x142 x143 x144 x145 x146 x147 x148 x149 x150 x151 x152 x153 x154 x155 x156 x157 x158 x159 x160 x161 x162 x163 x164 x165 x166 x167 x168 x169 x170 x171 x172 x173 x174 x175 x176 x177 x178 x179 x180 x181 x182 x183 x184 x185 x186 x187 x188 x189 x190 x191 x192 x193 x194 x195 x196 x197 x198 x199 x200 x201 x202 x203 x204 x205 x206 x207 x208 x209 x210 x211 x212 x213 x214 x215 x216 x217 x218 x219 x220 x221 x222 x223 x224 x225 x226 x227 x228 x229 x230 x231 x232 x233 x234 x235 x236 x237 x238 x239 x240 x241 x242 x243 x244 x245 x246 x247 x248 x249 x250 x251 x252 x253 x254 x255 x256 x257 x258 x259 x260 x261 x262 x263 x264 x265 x266 x267 x268 x269 x270 x271 x272 x273 x274 x275 x276 x277 x278 x279 x280 x281 x282 x283 x284 x285 x286 x287 x288 x289 x290 x291 x292 x293 x294 x295 x296 x297 x298 x299 x300 x301 x302 x303 x304 x305 x306 x307 x308 x309 x310 x311 x312 x313 x314 x315 x316 x317 x318 x319 x320 x321 x322 x323 x324 x325 x326 x327 x328 x329 x330 x331 x332 x333 x334 x335 x336 x337 x338 x339 x340 x341 x342 x343 x344 x345 x346 x347 x348 x349 x350 x351 x352 x353 x354 x355 x356 x357 x358 x359 x360 x361 x362 x363 x364 x365 x366 x367 x368 x369 x370 x371 x372 x373 x374 x375 x376 x377 x378 x379 x380 x381 x382 x383 x384 x385 x386 x387 x388 x389 x390 x391 x392 x393 x394 x395 x396 x397 x398 x399 x400 x401 x402 x403 x404 x405 x406 x407 x408 x409 x410 x411 x412 x413 x414 x415 x416 x417 x418 x419 x420 x421 x422 x423 x424 x425 x426 x427 x428 x429 x430 x431 x432 x433 x434 x435 x436 x437 x438 x439 x440 x441 x442 x443 x444 x445 x446 x447 x448 x449 x450 x451 x452 x453 x454 x455 x456 x457 x458 x459 x460 x461 x462 x463 x464 x465 x466 x467 x468 x469 : Value} :
    Code.wp Yba.prog (dropSeq 11 (Yba.f31.body.getD .skip)) (bodyPost Yba.prog Yba.f31 Post) ⟨#[.pointer (some ⟨c.C, 0, none⟩), .int .i64 bud, .pointer (some ⟨bx, 0, none⟩), x3, .bool false, x5, .pointer (some ⟨c.TT, 0, none⟩), .func (.func 51) #[] #[.pointer (some ⟨bx, 0, none⟩)], x8, x9, x10, x11, x12, x13, x14, x15, x16, x17, x18, x19, x20, x21, x22, x23, x24, x25, x26, x27, x28, x29, x30, x31, x32, x33, x34, x35, x36, x37, x38, x39, x40, x41, x42, x43, x44, x45, x46, x47, x48, x49, x50, x51, x52, x53, x54, x55, x56, x57, x58, x59, x60, x61, x62, x63, x64, x65, x66, x67, x68, x69, x70, x71, x72, x73, x74, x75, x76, x77, x78, x79, x80, x81, x82, x83, x84, x85, x86, x87, x88, x89, x90, x91, x92, x93, x94, x95, x96, x97, x98, x99, x100, x101, x102, x103, x104, x105, x106, x107, x108, x109, x110, x111, x112, x113, x114, x115, x116, x117, x118, x119, x120, x121, x122, x123, x124, x125, x126, x127, x128, x129, x130, x131, x132, x133, x134, x135, x136, x137, x138, x139, x140, x141, x142, x143, x144, x145, x146, x147, x148, x149, x150, x151, x152, x153, x154, x155, x156, x157, x158, x159, x160, x161, x162, x163, x164, x165, x166, x167, x168, x169, x170, x171, x172, x173, x174, x175, x176, x177, x178, x179, x180, x181, x182, x183, x184, x185, x186, x187, x188, x189, x190, x191, x192, x193, x194, x195, x196, x197, x198, x199, x200, x201, x202, x203, x204, x205, x206, x207, x208, x209, x210, x211, x212, x213, x214, x215, x216, x217, x218, x219, x220, x221, x222, x223, x224, x225, x226, x227, x228, x229, x230, x231, x232, x233, x234, x235, x236, x237, x238, x239, x240, x241, x242, x243, x244, x245, x246, x247, x248, x249, x250, x251, x252, x253, x254, x255, x256, x257, x258, x259, x260, x261, x262, x263, x264, x265, x266, x267, x268, x269, x270, x271, x272, x273, x274, x275, x276, x277, x278, x279, x280, x281, x282, x283, x284, x285, x286, x287, x288, x289, x290, x291, x292, x293, x294, x295, x296, x297, x298, x299, x300, x301, x302, x303, x304, x305, x306, x307, x308, x309, x310, x311, x312, x313, x314, x315, x316, x317, x318, x319, x320, x321, x322, x323, x324, x325, x326, x327, x328, x329, x330, x331, x332, x333, x334, x335, x336, x337, x338, x339, x340, x341, x342, x343, x344, x345, x346, x347, x348, x349, x350, x351, x352, x353, x354, x355, x356, x357, x358, x359, x360, x361, x362, x363, x364, x365, x366, x367, x368, x369, x370, x371, x372, x373, x374, x375, x376, x377, x378, x379, x380, x381, x382, x383, x384, x385, x386, x387, x388, x389, x390, x391, x392, x393, x394, x395, x396, x397, x398, x399, x400, x401, x402, x403, x404, x405, x406, x407, x408, x409, x410, x411, x412, x413, x414, x415, x416, x417, x418, x419, x420, x421, x422, x423, x424, x425, x426, x427, x428, x429, x430, x431, x432, x433, x434, x435, x436, x437, x438, x439, x440, x441, x442, x443, x444, x445, x446, x447, x448, x449, x450, x451, x452, x453, x454, x455, x456, x457, x458, x459, x460, x461, x462, x463, x464, x465, x466, x467, x468, x469], []⟩ w := by
  obtain ⟨gd, e18, b18, p18⟩ := hR.r18
  obtain ⟨ga, gc, hgv, hgg⟩ := h.sep.shape e18
  have hgv : v.gained = .slice ga gd.length gc := hgv
  rw [hgv] at e18
  obtain ⟨gL, cL, hLv, _⟩ := h.sep.form hR.r7 |>.2 |>.resolve_left (by rintro ⟨_, h2⟩; simp at h2)
  have hLv : v.len = .slice (some ⟨gL, 0, none⟩) (J.length + 2) cL := hLv
  have e7' : K 7 = some ⟨3, 1, J.length + 2, .slice (some ⟨gL, 0, none⟩) (J.length + 2) cL, rowOf L (J.length + 2)⟩ := by rw [hR.r7, hLv]
  obtain ⟨f8, e8, b8⟩ := hR.r8
  obtain ⟨gX, cX, hXv, _⟩ := h.sep.form e8 |>.2 |>.resolve_left (by rintro ⟨_, h2⟩; simp at h2)
  have hXv : v.nxt = .slice (some ⟨gX, 0, none⟩) (J.length + 2) cX := hXv
  have e8' : K 8 = some ⟨3, 1, J.length + 2, .slice (some ⟨gX, 0, none⟩) (J.length + 2) cX, rowOf f8 (J.length + 2)⟩ := by rw [e8, hXv]
  obtain ⟨gI, cI, hidv, _⟩ := h.sep.form hR.r1 |>.2 |>.resolve_left (by rintro ⟨_, h2⟩; simp at h2)
  have hids : v.ids = .slice (some ⟨gI, 0, none⟩) (J.length + 2) cI := hidv
  have e1' : K 1 = some ⟨3, 1, J.length + 2, .slice (some ⟨gI, 0, none⟩) (J.length + 2) cI, ints (0 :: c.N :: J)⟩ := by rw [hR.r1, hids]
  have e24 : K 24 = some ⟨28, 1, 1, .slice (some ⟨bx, 0, none⟩) 1 1, [.pointer (some ⟨c.C, 0, none⟩)]⟩ := (hR.rD 24 (by omega) (by omega)).trans hbox
  have hJ7 := hR.lJ
  have HR : Hid (Rw c K v D J O I L B (J.length + 2)) := hR
  have HP18 : Hid (∀ x ∈ gd, 2 ≤ x.1 ∧ x.1 < J.length + 2 ∧ x.2 < J.length + 2) := p18
  have HLB : Hid (∀ p, -1 ≤ L p ∧ L p ≤ 8) := hLb
  have HP : Hid (∀ w', Below c.base w0 w' → St c K v w' → Post (.returned (.bool true)) w') := hP
  have c0 := h.sep.cell e24 (j := 0) rfl
  have c32 : w.cell? ⟨c.C, 32, none⟩ = some (.slice ga gd.length gc) := by rw [← hgv]; exact h.hC.cell? 32
  clear hR p18 hLb hP e8 b8 hidv
  conv => arg 2; whnf
  go_wp2_with fail
  go_loopw [301] (fun iv wr => ∃ i : Nat, i ≤ gd.length ∧ iv = .int .i64 i ∧ Below c.base w0 wr ∧ c.base ≤ wr.heap.size ∧ St c K v wr) (fun iv _ => gd.length - (intOf iv).toNat)
  case atStart => exact ⟨0, Nat.zero_le _, rfl, hbl, hb, h⟩
  case round =>
    obtain ⟨i, hi, rfl, hbr, hsr, hstr⟩ := hrel
    by_cases hil : i < gd.length
    · have hil' : (i : Int) < (gd.length : Int) := by omega
      obtain ⟨gg, rfl⟩ := hgg (by omega)
      obtain ⟨x, hx⟩ : ∃ x, gd[i]? = some x := ⟨_, List.getElem?_eq_getElem hil⟩
      obtain ⟨q1, q2⟩ := pairs_at hx
      have d1 := hstr.sep.cellS e18 q1
      have d2 := hstr.sep.cellS e18 q2
      obtain ⟨x1, x2⟩ := x
      obtain ⟨z1, z2, z3⟩ := HP18.out _ (List.mem_of_getElem? hx)
      simp only at d1 d2 z1 z2 z3
      go_upto_region 51 with fail
      have hsta := hstr.alloc (.cells #[.int .i64 (x1 : Int), .int .i64 (x2 : Int)] 120)
      have hba : Below c.base w0 (wr.alloc (.cells #[.int .i64 (x1 : Int), .int .i64 (x2 : Int)] 120)) := hbr.alloc hsr _
      have hsa : c.base ≤ (wr.alloc (.cells #[.int .i64 (x1 : Int), .int .i64 (x2 : Int)] 120)).heap.size := by simp; omega
      have a1 : (wr.alloc (.cells #[.int .i64 (x1 : Int), .int .i64 (x2 : Int)] 120)).cell? ⟨wr.heap.size, 0, none⟩ = some (.int .i64 (x1 : Int)) := (Blk.new wr _ 120).cell? 0
      have a2 : (wr.alloc (.cells #[.int .i64 (x1 : Int), .int .i64 (x2 : Int)] 120)).cell? ⟨wr.heap.size, 1, none⟩ = some (.int .i64 (x2 : Int)) := (Blk.new wr _ 120).cell? 1
      generalize wr.alloc (.cells #[.int .i64 (x1 : Int), .int .i64 (x2 : Int)] 120) = wa at hsta hba hsa a1 a2 ⊢
      generalize wr.heap.size = Ba at *
      go_quiet (fail)
      have hstb := hsta.drewN nq
      have hbb := below_drewN hba nq
      have hsb : c.base ≤ (wa.drewN nq).heap.size := hsa
      generalize wa.drewN nq = wb at hstb hbb hsb ⊢
      clear a1 a2 hsta hba hsa
      obtain ⟨yi, hyi⟩ : ∃ yi, (0 :: c.N :: J)[x2]? = some yi := ⟨_, List.getElem?_eq_getElem (by simp; omega)⟩
      have cid := hstb.sep.cell e1' (ints_at hyi)
      have k0 := hstb.sep.cell e24 (j := 0) rfl
      have k2 : wb.cell? ⟨c.TT, 2, none⟩ = some (.slice (some ⟨gL, 0, none⟩) (J.length + 2) cL) := by rw [← hLv]; exact hstb.hTT.cell? 2
      have kq := hstb.sep.cell e7' (rowOf_get L z3)
      have hz2 : (x1 : Int) < ((J.length : Int) + 2) := by omega
      have hz3 : (x2 : Int) < ((J.length : Int) + 2) := by omega
      have hLq := HLB.out x2
      go_upto_region 52 with fail
      go_quiet ((go_at_call 52; exact Calls.quiet_of_same (cost_calls c K v _ (hstb.drewN _) gI (J.length + 2) cI x2 (yi : Int) hids z3 cid)))
      have hstc := hstb.drewN nq
      have hbc := below_drewN hbb nq
      have hsc : c.base ≤ (wb.drewN nq).heap.size := hsb
      generalize wb.drewN nq = wc at hstc hbc hsc ⊢
      have m0 := hstc.sep.cell e24 (j := 0) rfl
      go_wp2_with (go_at_call 51; refine Calls.mono (fresh_calls c K D v wc J O I L B bx x1 hstc HR.out m0 z1 z2) ?_; rintro e w9 ⟨rfl, m9, rfl⟩)
      exact ⟨⟨i + 1, by omega, by go_num, below_drewN hbc m9, hsc, hstc.drewN m9⟩, by simp [intOf]; omega⟩
    · have hil' : ¬ ((i : Int) < (gd.length : Int)) := by omega
      have k0 := hstr.sep.cell e24 (j := 0) rfl
      have k32 : wr.cell? ⟨c.C, 32, none⟩ = some (.slice ga gd.length gc) := by rw [← hgv]; exact hstr.hC.cell? 32
      clear hi hil c0 c32
      go_wp2_with fail
      clear hil'
      go_loopw [370] (fun iv wr => ∃ i : Nat, i ≤ gd.length ∧ iv = .int .i64 i ∧ Below c.base w0 wr ∧ c.base ≤ wr.heap.size ∧ St c K v wr) (fun iv _ => gd.length - (intOf iv).toNat)
      case atStart => exact ⟨0, Nat.zero_le _, rfl, hbr, hsr, hstr⟩
      case round =>
        clear hstr hbr hsr k0 k32
        obtain ⟨j, hj, rfl, hbr, hsr, hstr⟩ := hrel
        by_cases hjl : j < gd.length
        · have hjl' : (j : Int) < (gd.length : Int) := by omega
          obtain ⟨gg, rfl⟩ := hgg (by omega)
          obtain ⟨x, hx⟩ : ∃ x, gd[j]? = some x := ⟨_, List.getElem?_eq_getElem hjl⟩
          obtain ⟨q1, q2⟩ := pairs_at hx
          have d1 := hstr.sep.cellS e18 q1
          have d2 := hstr.sep.cellS e18 q2
          obtain ⟨x1, x2⟩ := x
          obtain ⟨z1, z2, z3⟩ := HP18.out _ (List.mem_of_getElem? hx)
          simp only at d1 d2 z1 z2 z3
          go_upto_region 59 with fail
          have hsta := hstr.alloc (.cells #[.int .i64 (x1 : Int), .int .i64 (x2 : Int)] 120)
          have hba : Below c.base w0 (wr.alloc (.cells #[.int .i64 (x1 : Int), .int .i64 (x2 : Int)] 120)) := hbr.alloc hsr _
          have hsa : c.base ≤ (wr.alloc (.cells #[.int .i64 (x1 : Int), .int .i64 (x2 : Int)] 120)).heap.size := by simp; omega
          have a1 : (wr.alloc (.cells #[.int .i64 (x1 : Int), .int .i64 (x2 : Int)] 120)).cell? ⟨wr.heap.size, 0, none⟩ = some (.int .i64 (x1 : Int)) := (Blk.new wr _ 120).cell? 0
          have a2 : (wr.alloc (.cells #[.int .i64 (x1 : Int), .int .i64 (x2 : Int)] 120)).cell? ⟨wr.heap.size, 1, none⟩ = some (.int .i64 (x2 : Int)) := (Blk.new wr _ 120).cell? 1
          generalize wr.alloc (.cells #[.int .i64 (x1 : Int), .int .i64 (x2 : Int)] 120) = wa at hsta hba hsa a1 a2 ⊢
          generalize wr.heap.size = Ba at *
          go_quiet (fail)
          have hstb := hsta.drewN nq
          have hbb := below_drewN hba nq
          have hsb : c.base ≤ (wa.drewN nq).heap.size := hsa
          generalize wa.drewN nq = wb at hstb hbb hsb ⊢
          clear a1 a2 hsta hba hsa
          have k3 : wb.cell? ⟨c.TT, 3, none⟩ = some (.slice (some ⟨gX, 0, none⟩) (J.length + 2) cX) := by rw [← hXv]; exact hstb.hTT.cell? 3
          have kq := hstb.sep.cell e8' (rowOf_get f8 z2)
          have k0 := hstb.sep.cell e24 (j := 0) rfl
          have hz2 : (x1 : Int) < ((J.length : Int) + 2) := by omega
          go_upto_region 61 with fail
          go_quiet ((go_at_call 51; exact Calls.quiet_of (fresh_calls c K D v _ J O I L B bx x1 (hstb.drewN _) HR.out k0 z1 z2)))
          have hstc := hstb.drewN nq
          have hbc := below_drewN hbb nq
          have hsc : c.base ≤ (wb.drewN nq).heap.size := hsb
          generalize wb.drewN nq = wc at hstc hbc hsc ⊢
          go_wp2_with fail
          exact ⟨⟨j + 1, by omega, by go_num, hbc, hsc, hstc⟩, by simp [intOf]; omega⟩
        · have hjl' : ¬ ((j : Int) < (gd.length : Int)) := by omega
          go_wp2_with fail
          exact HP.out _ hbr hstr
end Go.Proofs.Ybulkuoc
