/- spread: each node that came takes its step. -/
import Derived.Test.YbulkuocSpF
namespace Go.Proofs.Ybulkuoc
open Go.RowKit

set_option maxRecDepth 40000 in
set_option maxHeartbeats 12800000 in
theorem spE (c : Tc) (K D : Nat → Option Ent) (v : Tv) (w w0 : World) (J : List Nat) (O I : Nat → List Nat) (L : Nat → Int) (B bx : Nat) (bud : Int) (Post : Ending → World → Prop) (h : St c K v w) (hR : Rw c K v D J O I L B (J.length + 2)) (hbox : D 24 = some ⟨28, 1, 1, .slice (some ⟨bx, 0, none⟩) 1 1, [.pointer (some ⟨c.C, 0, none⟩)]⟩) (hLb : ∀ p, -1 ≤ L p ∧ L p ≤ 8) (hB : B ≤ 6000) (hbl : Below c.base w0 w) (hb : c.base ≤ w.heap.size)
    (hO : ∀ p, ∀ y ∈ O p, y < J.length + 2 ∧ y ≠ p) (hfix : ∀ p, 2 ≤ p → p < J.length + 2 → Best L (O p) (L p))
    (hP : ∀ w' K' v' B', Below c.base w0 w' → St c K' v' w' → v'.work = v.work → Rw c K' v' D J O I L B' (J.length + 2) → Post (.returned (.bool true)) w') {x3 x5 x8 x9 x10 x11 x12 x13 x14 x15 x16 x17 x18 x19 x20 x21 x22 x23 x24 x25 x26 x27 x28 x29 x30 x31 x32 x33 x34 x35 x36 x37 x38 x39 x40 x41 x42 x43 x44 x45 x46 x47 x48 x49 x50 x51 x52 x53 x54 x55 x56 x57 x58 x59 x60 x61 x62 x63 x64 x65 x66 x67 x68 x69 x70 x71 x72 x73 x74 x75 x76 x77 x78 x79 x80 x81 x82 x83 x84 x85 x86 x87 x88 x89 x90 x91 x92 x93 x94 x95 x96 x97 x98 x99 x100 x101 x102 x103 x104 x105 x106 x107 x108 x109 x110 x111 x112 x113 x114 x115 x116 x117 x118 x119 x120 x121 x122 x123 x124 x125 x126 x127 x128 x129 x130 x131 x132 x133 x134 x135 x136 x137 x138 x139 x140 x141 x142 x143 x144 x145 x146 x147 x148 x149 x150 x151 x152 x153 x154 x155 x156 x157 x158 x159 x160 x161 x162 x163 x164 x165 x166 x167 x168 x169 x170 x171 x172 x173 x174 x175 x176 x177 x178 x179 x180 x181 x182 x183 x184 x185 x186 x187 x188 x189 x190 x191 x192 x193 x194 x195 x196 x197 x198 x199 x200 x201 x202 x203 x204 x205 x206 x207 x208 x209 x210 x211 x212 x213 x214 x215 x216 x217 x218 x219 x220 x221 x222 x223 x224 x225 x226 x227 x228 x229 x230 x231 x232 x233 x234 x235 x236 x237 x238 x239 x240 x241 x242 x243 x244 x245 x246 x247 x248 x249 x250 x251 x252 x253 x254 x255 x256 x257 x258 x259 x260 x261 x262 x263 x264 x265 x266 x267 x268 x269 x270 x271 x272 x273 x274 x275 x276 x277 x278 x279 x280 x281 x282 x283 x284 x285 x286 x287 x288 x289 x290 x291 x292 x293 x294 x295 x296 x297 x298 x299 x300 x301 x302 x303 x304 x305 x306 x307 x308 x309 x310 x311 x312 x313 x314 x315 x316 x317 x318 x319 x320 x321 x322 x323 x324 x325 x326 x327 x328 x329 x330 x331 x332 x333 x334 x335 x336 x337 x338 x339 x340 x341 x342 x343 x344 x345 x346 x347 x348 x349 x350 x351 x352 x353 x354 x355 x356 x357 x358 x359 x360 x361 x362 x363 x364 x365 x366 x367 x368 x369 x370 x371 x372 x373 x374 x375 x376 x377 x378 x379 x380 x381 x382 x383 x384 x385 x386 x387 x388 x389 x390 x391 x392 x393 x394 x395 x396 x397 x398 x399 x400 x401 x402 x403 x404 x405 x406 x407 x408 x409 x410 x411 x412 x413 x414 x415 x416 x417 x418 x419 x420 x421 x422 x423 x424 x425 x426 x427 x428 x429 x430 x431 x432 x433 x434 x435 x436 x437 x438 x439 x440 x441 x442 x443 x444 x445 x446 x447 x448 x449 x450 x451 x452 x453 x454 x455 x456 x457 x458 x459 x460 x461 x462 x463 x464 x465 x466 x467 x468 x469 : Value} :
    Code.wp Yba.prog (dropSeq 10 (Yba.f31.body.getD .skip)) (bodyPost Yba.prog Yba.f31 Post) ⟨#[.pointer (some ⟨c.C, 0, none⟩), .int .i64 bud, .pointer (some ⟨bx, 0, none⟩), x3, .bool false, x5, .pointer (some ⟨c.TT, 0, none⟩), .func (.func 51) #[] #[.pointer (some ⟨bx, 0, none⟩)], x8, x9, x10, x11, x12, x13, x14, x15, x16, x17, x18, x19, x20, x21, x22, x23, x24, x25, x26, x27, x28, x29, x30, x31, x32, x33, x34, x35, x36, x37, x38, x39, x40, x41, x42, x43, x44, x45, x46, x47, x48, x49, x50, x51, x52, x53, x54, x55, x56, x57, x58, x59, x60, x61, x62, x63, x64, x65, x66, x67, x68, x69, x70, x71, x72, x73, x74, x75, x76, x77, x78, x79, x80, x81, x82, x83, x84, x85, x86, x87, x88, x89, x90, x91, x92, x93, x94, x95, x96, x97, x98, x99, x100, x101, x102, x103, x104, x105, x106, x107, x108, x109, x110, x111, x112, x113, x114, x115, x116, x117, x118, x119, x120, x121, x122, x123, x124, x125, x126, x127, x128, x129, x130, x131, x132, x133, x134, x135, x136, x137, x138, x139, x140, x141, x142, x143, x144, x145, x146, x147, x148, x149, x150, x151, x152, x153, x154, x155, x156, x157, x158, x159, x160, x161, x162, x163, x164, x165, x166, x167, x168, x169, x170, x171, x172, x173, x174, x175, x176, x177, x178, x179, x180, x181, x182, x183, x184, x185, x186, x187, x188, x189, x190, x191, x192, x193, x194, x195, x196, x197, x198, x199, x200, x201, x202, x203, x204, x205, x206, x207, x208, x209, x210, x211, x212, x213, x214, x215, x216, x217, x218, x219, x220, x221, x222, x223, x224, x225, x226, x227, x228, x229, x230, x231, x232, x233, x234, x235, x236, x237, x238, x239, x240, x241, x242, x243, x244, x245, x246, x247, x248, x249, x250, x251, x252, x253, x254, x255, x256, x257, x258, x259, x260, x261, x262, x263, x264, x265, x266, x267, x268, x269, x270, x271, x272, x273, x274, x275, x276, x277, x278, x279, x280, x281, x282, x283, x284, x285, x286, x287, x288, x289, x290, x291, x292, x293, x294, x295, x296, x297, x298, x299, x300, x301, x302, x303, x304, x305, x306, x307, x308, x309, x310, x311, x312, x313, x314, x315, x316, x317, x318, x319, x320, x321, x322, x323, x324, x325, x326, x327, x328, x329, x330, x331, x332, x333, x334, x335, x336, x337, x338, x339, x340, x341, x342, x343, x344, x345, x346, x347, x348, x349, x350, x351, x352, x353, x354, x355, x356, x357, x358, x359, x360, x361, x362, x363, x364, x365, x366, x367, x368, x369, x370, x371, x372, x373, x374, x375, x376, x377, x378, x379, x380, x381, x382, x383, x384, x385, x386, x387, x388, x389, x390, x391, x392, x393, x394, x395, x396, x397, x398, x399, x400, x401, x402, x403, x404, x405, x406, x407, x408, x409, x410, x411, x412, x413, x414, x415, x416, x417, x418, x419, x420, x421, x422, x423, x424, x425, x426, x427, x428, x429, x430, x431, x432, x433, x434, x435, x436, x437, x438, x439, x440, x441, x442, x443, x444, x445, x446, x447, x448, x449, x450, x451, x452, x453, x454, x455, x456, x457, x458, x459, x460, x461, x462, x463, x464, x465, x466, x467, x468, x469], []⟩ w := by
  have hJ7 := hR.lJ
  have HLB : Hid (∀ p, -1 ≤ L p ∧ L p ≤ 8) := hLb
  have HP : Hid (∀ w' K' v' B', Below c.base w0 w' → St c K' v' w' → v'.work = v.work → Rw c K' v' D J O I L B' (J.length + 2) → Post (.returned (.bool true)) w') := hP
  have HO : Hid (∀ p, ∀ y ∈ O p, y < J.length + 2 ∧ y ≠ p) := hO
  have HF : Hid (∀ p, 2 ≤ p → p < J.length + 2 → Best L (O p) (L p)) := hfix
  have HR : Hid (Rw c K v D J O I L B (J.length + 2)) := hR
  clear hLb hP hO hfix hR
  conv => arg 2; whnf
  refine wp_seq_k ?_
  intro Kc hKc
  dsimp only
  go_cut [] from 282 to 295 (fun wc => ∃ K' v' B', B' ≤ B + 10 ∧ Below c.base w0 wc ∧ c.base ≤ wc.heap.size ∧ St c K' v' wc ∧ v'.work = v.work ∧ Rw c K' v' D J O I L B' (J.length + 2))
  case rest =>
    obtain ⟨K', v', B', hB', q1, q2, q3, q4, q5⟩ := hcut
    apply hKc
    exact spF c K' D v' wc w0 J O I L B' bx bud Post q3 q5 hbox HLB.out (by omega) q1 q2 (fun w' a1 a2 => HP.out w' K' v' B' a1 a2 q4 q5)
  case first =>
    have e24 : K 24 = some ⟨28, 1, 1, .slice (some ⟨bx, 0, none⟩) 1 1, [.pointer (some ⟨c.C, 0, none⟩)]⟩ := (HR.out.rD 24 (by omega) (by omega)).trans hbox
    have c0 := h.sep.cell e24 (j := 0) rfl
    obtain ⟨fa, fc, hfv, hfg⟩ := h.sep.shape HR.out.r12
    have c31 : w.cell? ⟨c.C, 31, none⟩ = some (.slice fa J.length fc) := by rw [← hfv]; exact h.hC.cell? 31
    have e12 := HR.out.r12
    rw [hfv] at e12
    go_wp2_with fail
    go_loopw [287] (fun iv wr => ∃ (i : Nat) (K' : Nat → Option Ent) (v' : Tv), i ≤ J.length ∧ iv = .int .i64 i ∧ Below c.base w0 wr ∧ c.base ≤ wr.heap.size ∧ St c K' v' wr ∧ v'.work = v.work ∧ Rw c K' v' D J O I L (B + i) (J.length + 2) ∧ ∃ y, K' 12 = some ⟨3, 1, J.length, y, ints (List.range' 2 J.length)⟩ ∧ y = .slice fa J.length fc) (fun iv _ => J.length - (intOf iv).toNat)
    case atStart => exact ⟨0, K, v, Nat.zero_le _, rfl, hbl, hb, h, rfl, HR.out, _, e12, rfl⟩
    case round =>
      clear c0 c31 e24
      obtain ⟨i, K', v', hi, rfl, hbr, hsr, hstr, hwr, hRr, y, e12r, rfl⟩ := hrel
      by_cases hil : i < J.length
      · have hil' : (i : Int) < (J.length : Int) := by omega
        obtain ⟨gf, rfl⟩ := hfg (by omega)
        have e24 : K' 24 = some ⟨28, 1, 1, .slice (some ⟨bx, 0, none⟩) 1 1, [.pointer (some ⟨c.C, 0, none⟩)]⟩ := (hRr.rD 24 (by omega) (by omega)).trans hbox
        have c0 := hstr.sep.cell e24 (j := 0) rfl
        have cf := hstr.sep.cell e12r (ints_at (v := i + 2) (by rw [List.getElem?_range' hil]; simp; omega))
        have hfe : v'.fresh = .slice (some ⟨gf, 0, none⟩) J.length fc := by
          have h1 := hRr.r12
          rw [e12r] at h1
          simp only [Option.some.injEq, Ent.mk.injEq] at h1
          exact h1.2.2.2.1.symm
        have HRR : Hid (Rw c K' v' D J O I L (B + i) (J.length + 2)) := hRr
        clear hRr
        go_wp2_with (go_at_call 55; refine Calls.mono (nearest_calls c K' D v' wr J O I L (B + i) (J.length + 2) (i + 2) hstr HRR.out hsr (by omega) (by omega) (fun hm => (HO.out _ _ hm).2 rfl) (fun y hy => (HO.out _ y hy).1) HLB.out (HF.out _ (by omega) (by omega))) ?_; rintro e w9 ⟨rfl, hbl9, K9, v9, hst9, hw9, hf9, hR9⟩)
        refine ⟨⟨i + 1, K9, v9, by omega, by go_num, hbr.trans hbl9, by have := hbl9.size; omega, hst9, hw9.trans hwr, hR9, _, hR9.r12, hf9.trans hfe⟩, by simp [intOf]; omega⟩
      · have hil' : ¬ ((i : Int) < (J.length : Int)) := by omega
        have HRR : Hid (Rw c K' v' D J O I L (B + i) (J.length + 2)) := hRr
        clear hRr
        go_wp2_with fail
        go_meet
        exact ⟨K', v', B + i, by omega, hbr, hsr, hstr, hwr, HRR.out⟩
end Go.Proofs.Ybulkuoc
