/- spread: the marks, the lengths' reset. -/
import Derived.Test.YbulkuocSpC
namespace Go.Proofs.Ybulkuoc
open Go.RowKit

set_option maxRecDepth 40000 in
set_option maxHeartbeats 12800000 in
theorem spB (c : Tc) (K D : Nat → Option Ent) (v : Tv) (w w0 : World) (J : List Nat) (O I : Nat → List Nat) (L : Nat → Int) (rk : Nat → Nat) (B bx : Nat) (bud : Int) (Post : Ending → World → Prop) (h : St c K v w) (hR : Rw c K v D J O I L B 0) (hL0 : L 0 = -1) (hL1 : L 1 = 0) (hbox : D 24 = some ⟨28, 1, 1, .slice (some ⟨bx, 0, none⟩) 1 1, [.pointer (some ⟨c.C, 0, none⟩)]⟩) (hB : B ≤ 6000) (hbl : Below c.base w0 w) (hb : c.base ≤ w.heap.size)
    (hG : Geo (J.length + 2) O I rk)
    (hP : ∀ w' K' v' L' B', Below c.base w0 w' → St c K' v' w' → v'.work = v.work → Rw c K' v' D J O I L' B' (J.length + 2) → L' 1 = 0 → (∀ p, 2 ≤ p → p < J.length + 2 → Best L' (O p) (L' p)) → Post (.returned (.bool true)) w') {x3 x5 x6 x7 x8 x9 x10 x11 x12 x13 x14 x15 x16 x17 x18 x19 x20 x21 x22 x23 x24 x25 x26 x27 x28 x29 x30 x31 x32 x33 x34 x35 x36 x37 x38 x39 x40 x41 x42 x43 x44 x45 x46 x47 x48 x49 x50 x51 x52 x53 x54 x55 x56 x57 x58 x59 x60 x61 x62 x63 x64 x65 x66 x67 x68 x69 x70 x71 x72 x73 x74 x75 x76 x77 x78 x79 x80 x81 x82 x83 x84 x85 x86 x87 x88 x89 x90 x91 x92 x93 x94 x95 x96 x97 x98 x99 x100 x101 x102 x103 x104 x105 x106 x107 x108 x109 x110 x111 x112 x113 x114 x115 x116 x117 x118 x119 x120 x121 x122 x123 x124 x125 x126 x127 x128 x129 x130 x131 x132 x133 x134 x135 x136 x137 x138 x139 x140 x141 x142 x143 x144 x145 x146 x147 x148 x149 x150 x151 x152 x153 x154 x155 x156 x157 x158 x159 x160 x161 x162 x163 x164 x165 x166 x167 x168 x169 x170 x171 x172 x173 x174 x175 x176 x177 x178 x179 x180 x181 x182 x183 x184 x185 x186 x187 x188 x189 x190 x191 x192 x193 x194 x195 x196 x197 x198 x199 x200 x201 x202 x203 x204 x205 x206 x207 x208 x209 x210 x211 x212 x213 x214 x215 x216 x217 x218 x219 x220 x221 x222 x223 x224 x225 x226 x227 x228 x229 x230 x231 x232 x233 x234 x235 x236 x237 x238 x239 x240 x241 x242 x243 x244 x245 x246 x247 x248 x249 x250 x251 x252 x253 x254 x255 x256 x257 x258 x259 x260 x261 x262 x263 x264 x265 x266 x267 x268 x269 x270 x271 x272 x273 x274 x275 x276 x277 x278 x279 x280 x281 x282 x283 x284 x285 x286 x287 x288 x289 x290 x291 x292 x293 x294 x295 x296 x297 x298 x299 x300 x301 x302 x303 x304 x305 x306 x307 x308 x309 x310 x311 x312 x313 x314 x315 x316 x317 x318 x319 x320 x321 x322 x323 x324 x325 x326 x327 x328 x329 x330 x331 x332 x333 x334 x335 x336 x337 x338 x339 x340 x341 x342 x343 x344 x345 x346 x347 x348 x349 x350 x351 x352 x353 x354 x355 x356 x357 x358 x359 x360 x361 x362 x363 x364 x365 x366 x367 x368 x369 x370 x371 x372 x373 x374 x375 x376 x377 x378 x379 x380 x381 x382 x383 x384 x385 x386 x387 x388 x389 x390 x391 x392 x393 x394 x395 x396 x397 x398 x399 x400 x401 x402 x403 x404 x405 x406 x407 x408 x409 x410 x411 x412 x413 x414 x415 x416 x417 x418 x419 x420 x421 x422 x423 x424 x425 x426 x427 x428 x429 x430 x431 x432 x433 x434 x435 x436 x437 x438 x439 x440 x441 x442 x443 x444 x445 x446 x447 x448 x449 x450 x451 x452 x453 x454 x455 x456 x457 x458 x459 x460 x461 x462 x463 x464 x465 x466 x467 x468 x469 : Value} :
    Code.wp Yba.prog (dropSeq 3 (Yba.f31.body.getD .skip)) (bodyPost Yba.prog Yba.f31 Post) ⟨#[.pointer (some ⟨c.C, 0, none⟩), .int .i64 bud, .pointer (some ⟨bx, 0, none⟩), x3, .bool false, x5, x6, x7, x8, x9, x10, x11, x12, x13, x14, x15, x16, x17, x18, x19, x20, x21, x22, x23, x24, x25, x26, x27, x28, x29, x30, x31, x32, x33, x34, x35, x36, x37, x38, x39, x40, x41, x42, x43, x44, x45, x46, x47, x48, x49, x50, x51, x52, x53, x54, x55, x56, x57, x58, x59, x60, x61, x62, x63, x64, x65, x66, x67, x68, x69, x70, x71, x72, x73, x74, x75, x76, x77, x78, x79, x80, x81, x82, x83, x84, x85, x86, x87, x88, x89, x90, x91, x92, x93, x94, x95, x96, x97, x98, x99, x100, x101, x102, x103, x104, x105, x106, x107, x108, x109, x110, x111, x112, x113, x114, x115, x116, x117, x118, x119, x120, x121, x122, x123, x124, x125, x126, x127, x128, x129, x130, x131, x132, x133, x134, x135, x136, x137, x138, x139, x140, x141, x142, x143, x144, x145, x146, x147, x148, x149, x150, x151, x152, x153, x154, x155, x156, x157, x158, x159, x160, x161, x162, x163, x164, x165, x166, x167, x168, x169, x170, x171, x172, x173, x174, x175, x176, x177, x178, x179, x180, x181, x182, x183, x184, x185, x186, x187, x188, x189, x190, x191, x192, x193, x194, x195, x196, x197, x198, x199, x200, x201, x202, x203, x204, x205, x206, x207, x208, x209, x210, x211, x212, x213, x214, x215, x216, x217, x218, x219, x220, x221, x222, x223, x224, x225, x226, x227, x228, x229, x230, x231, x232, x233, x234, x235, x236, x237, x238, x239, x240, x241, x242, x243, x244, x245, x246, x247, x248, x249, x250, x251, x252, x253, x254, x255, x256, x257, x258, x259, x260, x261, x262, x263, x264, x265, x266, x267, x268, x269, x270, x271, x272, x273, x274, x275, x276, x277, x278, x279, x280, x281, x282, x283, x284, x285, x286, x287, x288, x289, x290, x291, x292, x293, x294, x295, x296, x297, x298, x299, x300, x301, x302, x303, x304, x305, x306, x307, x308, x309, x310, x311, x312, x313, x314, x315, x316, x317, x318, x319, x320, x321, x322, x323, x324, x325, x326, x327, x328, x329, x330, x331, x332, x333, x334, x335, x336, x337, x338, x339, x340, x341, x342, x343, x344, x345, x346, x347, x348, x349, x350, x351, x352, x353, x354, x355, x356, x357, x358, x359, x360, x361, x362, x363, x364, x365, x366, x367, x368, x369, x370, x371, x372, x373, x374, x375, x376, x377, x378, x379, x380, x381, x382, x383, x384, x385, x386, x387, x388, x389, x390, x391, x392, x393, x394, x395, x396, x397, x398, x399, x400, x401, x402, x403, x404, x405, x406, x407, x408, x409, x410, x411, x412, x413, x414, x415, x416, x417, x418, x419, x420, x421, x422, x423, x424, x425, x426, x427, x428, x429, x430, x431, x432, x433, x434, x435, x436, x437, x438, x439, x440, x441, x442, x443, x444, x445, x446, x447, x448, x449, x450, x451, x452, x453, x454, x455, x456, x457, x458, x459, x460, x461, x462, x463, x464, x465, x466, x467, x468, x469], []⟩ w := by
  have hJ7 := hR.lJ
  have HG : Hid (Geo (J.length + 2) O I rk) := hG
  have HP : Hid (∀ w' K' v' L' B', Below c.base w0 w' → St c K' v' w' → v'.work = v.work → Rw c K' v' D J O I L' B' (J.length + 2) → L' 1 = 0 → (∀ p, 2 ≤ p → p < J.length + 2 → Best L' (O p) (L' p)) → Post (.returned (.bool true)) w') := hP
  have e24 : K 24 = some ⟨28, 1, 1, .slice (some ⟨bx, 0, none⟩) 1 1, [.pointer (some ⟨c.C, 0, none⟩)]⟩ := (hR.rD 24 (by omega) (by omega)).trans hbox
  have c0 := h.sep.cell e24 (j := 0) rfl
  have c18 : w.cell? ⟨c.C, 18, none⟩ = some (.pointer (some ⟨c.TT, 0, none⟩)) := h.hC.cell? 18
  have c31 : w.cell? ⟨c.C, 31, none⟩ = some v.fresh := h.hC.cell? 31
  have HR : Hid (Rw c K v D J O I L B 0) := hR
  clear hG hP hR
  conv => arg 2; whnf
  go_upto_region 10 with fail
  go_cut [] from 87 to 92 (fun wc => ∃ K' v', Below c.base w0 wc ∧ c.base ≤ wc.heap.size ∧ St c K' v' wc ∧ v'.work = v.work ∧ Rw c K' v' D J O I L B (J.length + 2))
  case first =>
    go_region_with (go_at_call 43; refine Calls.mono (markPlaces_calls c K D v _ J O I L B h.drew HR.out hb) ?_; rintro e w5 ⟨rfl, hbl5, K5, v5, hst5, hw5, hf5, hR5⟩)
    all_goals
      go_wp2_with fail
      go_meet
      exact ⟨K5, v5, (below_drewN hbl 1).trans hbl5, by have := hbl5.size; have : w.drew.heap.size = w.heap.size := rfl; omega, hst5, hw5, hR5⟩
  case rest =>
    obtain ⟨K1, v1, b1, s1, h1, hw1, hR1⟩ := hcut
    clear c0 c18 c31 e24
    obtain ⟨gL, cL, hLv, _⟩ := h1.sep.form hR1.r7 |>.2 |>.resolve_left (by rintro ⟨_, h2⟩; simp at h2)
    have hLv : v1.len = .slice (some ⟨gL, 0, none⟩) (J.length + 2) cL := hLv
    obtain ⟨fa, fc, hfv, hfg⟩ := h1.sep.shape hR1.r12
    have hfv : v1.fresh = .slice fa J.length fc := hfv
    have e24 : K1 24 = some ⟨28, 1, 1, .slice (some ⟨bx, 0, none⟩) 1 1, [.pointer (some ⟨c.C, 0, none⟩)]⟩ := (hR1.rD 24 (by omega) (by omega)).trans hbox
    have c0 := h1.sep.cell e24 (j := 0) rfl
    have c31 : wc.cell? ⟨c.C, 31, none⟩ = some (.slice fa J.length fc) := by rw [← hfv]; exact h1.hC.cell? 31
    have e12 : K1 12 = some ⟨3, 1, J.length, .slice fa J.length fc, ints (List.range' 2 J.length)⟩ := by rw [hR1.r12, hfv]
    have HR1 : Hid (Rw c K1 v1 D J O I L B (J.length + 2)) := hR1
    have H0 : St c (KL K1 (J.length + 2) gL cL (fun p => if 2 ≤ p ∧ p < 2 + 0 then -1 else L p)) v1 wc := by
      have e : KL K1 (J.length + 2) gL cL (fun p => if 2 ≤ p ∧ p < 2 + 0 then -1 else L p) = K1 := by
        unfold KL
        refine upd_self ?_
        rw [hR1.r7, hLv, rowOf_cg (f := fun p => if 2 ≤ p ∧ p < 2 + 0 then -1 else L p) (g := L) (fun p _ => by rw [if_neg (by omega)])]
      rw [e]
      exact h1
    have HTY := h1.ty
    clear hR1 h1
    go_wp2_with fail
    go_loopw [99] (fun iv wr => ∃ i : Nat, i ≤ J.length ∧ iv = .int .i64 i ∧ Below c.base w0 wr ∧ c.base ≤ wr.heap.size ∧ St c (KL K1 (J.length + 2) gL cL (fun p => if 2 ≤ p ∧ p < 2 + i then -1 else L p)) v1 wr) (fun iv _ => J.length - (intOf iv).toNat)
    case atStart => exact ⟨0, Nat.zero_le _, rfl, b1, s1, H0⟩
    case round =>
      clear H0 b1 s1 c0 c31
      obtain ⟨i, hi, rfl, q1, q2, q3⟩ := hrel
      have E7 : KL K1 (J.length + 2) gL cL (fun p => if 2 ≤ p ∧ p < 2 + i then -1 else L p) 7 = some ⟨3, 1, J.length + 2, .slice (some ⟨gL, 0, none⟩) (J.length + 2) cL, rowOf (fun p => if 2 ≤ p ∧ p < 2 + i then -1 else L p) (J.length + 2)⟩ := upd_same _ _ _
      have t2 : wr.cell? ⟨c.TT, 2, none⟩ = some (.slice (some ⟨gL, 0, none⟩) (J.length + 2) cL) := by rw [← hLv]; exact q3.hTT.cell? 2
      by_cases hil : i < J.length
      · have hil' : (i : Int) < (J.length : Int) := by omega
        obtain ⟨gf, rfl⟩ := hfg (by omega)
        have cf := q3.sep.cell (k := 12) (by unfold KL; rw [upd_other _ _ (by omega)]; exact e12) (ints_at (v := i + 2) (by rw [List.getElem?_range' hil]; simp; omega))
        have cl := q3.sep.cell E7 (rowOf_get _ (u := i + 2) (by omega))
        have fl := q3.sep.free E7 (i + 2)
        have hii : ((i : Int) + 2) < ((J.length : Int) + 2) := by omega
        have hs := q3.sep.put E7 (j := i + 2) (.int .i64 (-1))
        rw [rowOf_set] at hs
        have hgb := (q3.sep.lt E7 gL rfl).1
        have e : upd (KL K1 (J.length + 2) gL cL (fun p => if 2 ≤ p ∧ p < 2 + i then -1 else L p)) 7 ⟨3, 1, J.length + 2, .slice (some ⟨gL, 0, none⟩) (J.length + 2) cL, rowOf (fun y => if y = i + 2 then -1 else (fun p => if 2 ≤ p ∧ p < 2 + i then -1 else L p) y) (J.length + 2)⟩ = KL K1 (J.length + 2) gL cL (fun p => if 2 ≤ p ∧ p < 2 + (i + 1) then -1 else L p) := by
          have er : rowOf (fun y => if y = i + 2 then -1 else (fun p => if 2 ≤ p ∧ p < 2 + i then -1 else L p) y) (J.length + 2) = rowOf (fun p => if 2 ≤ p ∧ p < 2 + (i + 1) then -1 else L p) (J.length + 2) := by
            refine rowOf_cg (fun y _ => ?_)
            by_cases h1 : y = i + 2
            · rw [if_pos h1, if_pos (by omega)]
            · rw [if_neg h1]
              show (if 2 ≤ y ∧ y < 2 + i then -1 else L y) = _
              by_cases h2 : 2 ≤ y ∧ y < 2 + i
              · rw [if_pos h2, if_pos (by omega)]
              · rw [if_neg h2, if_neg (by omega)]
          unfold KL
          rw [upd_upd, er]
        rw [e] at hs
        have hst := q3.grow hs (by rw [← e]; exact upd_ty q3.ty _ _ ty3) (r := some gL) ⟨rfl, rfl, rfl, by simp, fun b _ hb => Below.heap_setCell _ _ _ _ (fun e => hb (by rw [e]))⟩ (fun b hb => ⟨7, _, E7, hb⟩)
        clear e hs
        go_wp2_with fail
        exact ⟨⟨i + 1, by omega, by go_num, q1.setCell hgb _, by simpa using q2, hst⟩, by simp [intOf]; omega⟩
      · have hil' : ¬ ((i : Int) < (J.length : Int)) := by omega
        obtain rfl : i = J.length := by omega
        have eL : KL K1 (J.length + 2) gL cL (fun p => if 2 ≤ p ∧ p < 2 + J.length then -1 else L p) = KL K1 (J.length + 2) gL cL (fun p => if p = 1 then 0 else -1) := by
          have er : rowOf (fun p => if 2 ≤ p ∧ p < 2 + J.length then -1 else L p) (J.length + 2) = rowOf (fun p => if p = 1 then 0 else -1) (J.length + 2) := by
            refine rowOf_cg (fun y hy => ?_)
            by_cases h1 : 2 ≤ y
            · rw [if_pos (by omega), if_neg (by omega)]
            · rw [if_neg (by omega)]
              by_cases h2 : y = 1
              · rw [if_pos h2, h2]; exact hL1
              · rw [if_neg h2, show y = 0 by omega]; exact hL0
          unfold KL
          rw [er]
        rw [eL] at q3
        clear E7 eL
        go_upto_region 17 with fail
        go_cut [10] from 11 to 11 (fun qv wc => ∃ bq, qv = .pointer (some ⟨bq, 0, none⟩) ∧ DS c K1 v1 w0 (J.length + 2) gL cL bq (fun p => if p = 1 then 0 else -1) [] wc)
        case first =>
          go_wp2_with fail
          go_meet
          refine ⟨wr.heap.size, rfl, .slice none 0 0, q1.alloc q2 _, by simp; omega, ?_, Blk.new _ _ _, q2, ?_⟩
          · have hA := q3.alloc (.cells #[.slice none 0 0] 45)
            exact hA.grow (hA.sep.nils 22 1015) (upd_ty hA.ty _ _ ty22) (r := none) ⟨rfl, rfl, rfl, Nat.le_refl _, fun _ _ _ => rfl⟩ (fun b e => by cases e)
          · intro k e hk
            by_cases hkq : k = 1015
            · subst hkq
              rw [KQ_q] at hk
              cases hk
              simp [Value.ownBlock]
            · intro ho
              have hk' : KL K1 (J.length + 2) gL cL (fun p => if p = 1 then 0 else -1) k = some e := by unfold KQ at hk; rw [upd_other _ _ hkq] at hk; exact hk
              have := (q3.sep.lt hk' _ ho).2
              omega
        case rest =>
          obtain ⟨bq, rfl, hds⟩ := hcut
          rename_i hk
          apply hk
          exact spC c K1 D v1 wc w0 J O I L rk B bx bq gL cL bud Post hLv HR1.out hbox hB HG.out hds (fun w' K' v' L' B' a1 a2 a3 a4 a5 a6 => HP.out w' K' v' L' B' a1 a2 (a3.trans hw1) a4 a5 a6)
end Go.Proofs.Ybulkuoc
