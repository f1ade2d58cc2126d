/- spread: the first lengths. -/
import Derived.Test.YbulkuocSpD
import Derived.Test.YbulkuocPc
namespace Go.Proofs.Ybulkuoc
open Go.RowKit

set_option maxRecDepth 20000 in
theorem key_or3 : ∀ l, l < 10 → ∀ p, p < 10 → bits BinOp.or IntKind.u64 (((l : Nat) : Int) * 4294967296) ((p : Nat) : Int) = ((kq l p : Nat) : Int) := by decide
/-- Inside: the first j of p's successors. -/
def PIn (c : Tc) (K : Nat → Option Ent) (v : Tv) (w0 : World) (M gL cL bq : Nat) (L : Nat → Int) (Q : List Nat) (x : Value) (l : List Nat) (p j : Nat) (w : World) : Prop :=
  ∃ r : Int, Below c.base w0 w ∧ c.base ≤ w.heap.size ∧ QG c v bq (KQ K M gL cL (fun y => if y = p then r else L y) Q x) x w ∧ Best L (l.take j) r

set_option maxRecDepth 40000 in
set_option maxHeartbeats 12800000 in
theorem spC (c : Tc) (K D : Nat → Option Ent) (v : Tv) (w w0 : World) (J : List Nat) (O I : Nat → List Nat) (L : Nat → Int) (rk : Nat → Nat) (B bx bq gL cL : Nat) (bud : Int) (Post : Ending → World → Prop) (hLv : v.len = .slice (some ⟨gL, 0, none⟩) (J.length + 2) cL) (hR : Rw c K v D J O I L B (J.length + 2)) (hbox : D 24 = some ⟨28, 1, 1, .slice (some ⟨bx, 0, none⟩) 1 1, [.pointer (some ⟨c.C, 0, none⟩)]⟩) (hB : B ≤ 6000)
    (hG : Geo (J.length + 2) O I rk) (hs : DS c K v w0 (J.length + 2) gL cL bq (fun p => if p = 1 then 0 else -1) [] w)
    (hP : ∀ w' K' v' L' B', Below c.base w0 w' → St c K' v' w' → v'.work = v.work → Rw c K' v' D J O I L' B' (J.length + 2) → L' 1 = 0 → (∀ p, 2 ≤ p → p < J.length + 2 → Best L' (O p) (L' p)) → Post (.returned (.bool true)) w') {x3 x5 x8 x9 x11 x12 x13 x14 x15 x16 x17 x18 x19 x20 x21 x22 x23 x24 x25 x26 x27 x28 x29 x30 x31 x32 x33 x34 x35 x36 x37 x38 x39 x40 x41 x42 x43 x44 x45 x46 x47 x48 x49 x50 x51 x52 x53 x54 x55 x56 x57 x58 x59 x60 x61 x62 x63 x64 x65 x66 x67 x68 x69 x70 x71 x72 x73 x74 x75 x76 x77 x78 x79 x80 x81 x82 x83 x84 x85 x86 x87 x88 x89 x90 x91 x92 x93 x94 x95 x96 x97 x98 x99 x100 x101 x102 x103 x104 x105 x106 x107 x108 x109 x110 x111 x112 x113 x114 x115 x116 x117 x118 x119 x120 x121 x122 x123 x124 x125 x126 x127 x128 x129 x130 x131 x132 x133 x134 x135 x136 x137 x138 x139 x140 x141 x142 x143 x144 x145 x146 x147 x148 x149 x150 x151 x152 x153 x154 x155 x156 x157 x158 x159 x160 x161 x162 x163 x164 x165 x166 x167 x168 x169 x170 x171 x172 x173 x174 x175 x176 x177 x178 x179 x180 x181 x182 x183 x184 x185 x186 x187 x188 x189 x190 x191 x192 x193 x194 x195 x196 x197 x198 x199 x200 x201 x202 x203 x204 x205 x206 x207 x208 x209 x210 x211 x212 x213 x214 x215 x216 x217 x218 x219 x220 x221 x222 x223 x224 x225 x226 x227 x228 x229 x230 x231 x232 x233 x234 x235 x236 x237 x238 x239 x240 x241 x242 x243 x244 x245 x246 x247 x248 x249 x250 x251 x252 x253 x254 x255 x256 x257 x258 x259 x260 x261 x262 x263 x264 x265 x266 x267 x268 x269 x270 x271 x272 x273 x274 x275 x276 x277 x278 x279 x280 x281 x282 x283 x284 x285 x286 x287 x288 x289 x290 x291 x292 x293 x294 x295 x296 x297 x298 x299 x300 x301 x302 x303 x304 x305 x306 x307 x308 x309 x310 x311 x312 x313 x314 x315 x316 x317 x318 x319 x320 x321 x322 x323 x324 x325 x326 x327 x328 x329 x330 x331 x332 x333 x334 x335 x336 x337 x338 x339 x340 x341 x342 x343 x344 x345 x346 x347 x348 x349 x350 x351 x352 x353 x354 x355 x356 x357 x358 x359 x360 x361 x362 x363 x364 x365 x366 x367 x368 x369 x370 x371 x372 x373 x374 x375 x376 x377 x378 x379 x380 x381 x382 x383 x384 x385 x386 x387 x388 x389 x390 x391 x392 x393 x394 x395 x396 x397 x398 x399 x400 x401 x402 x403 x404 x405 x406 x407 x408 x409 x410 x411 x412 x413 x414 x415 x416 x417 x418 x419 x420 x421 x422 x423 x424 x425 x426 x427 x428 x429 x430 x431 x432 x433 x434 x435 x436 x437 x438 x439 x440 x441 x442 x443 x444 x445 x446 x447 x448 x449 x450 x451 x452 x453 x454 x455 x456 x457 x458 x459 x460 x461 x462 x463 x464 x465 x466 x467 x468 x469 : Value} :
    Code.wp Yba.prog (dropSeq 8 (Yba.f31.body.getD .skip)) (bodyPost Yba.prog Yba.f31 Post) ⟨#[.pointer (some ⟨c.C, 0, none⟩), .int .i64 bud, .pointer (some ⟨bx, 0, none⟩), x3, .bool false, x5, .pointer (some ⟨c.TT, 0, none⟩), .func (.func 51) #[] #[.pointer (some ⟨bx, 0, none⟩)], x8, x9, .pointer (some ⟨bq, 0, none⟩), x11, x12, x13, x14, x15, x16, x17, x18, x19, x20, x21, x22, x23, x24, x25, x26, x27, x28, x29, x30, x31, x32, x33, x34, x35, x36, x37, x38, x39, x40, x41, x42, x43, x44, x45, x46, x47, x48, x49, x50, x51, x52, x53, x54, x55, x56, x57, x58, x59, x60, x61, x62, x63, x64, x65, x66, x67, x68, x69, x70, x71, x72, x73, x74, x75, x76, x77, x78, x79, x80, x81, x82, x83, x84, x85, x86, x87, x88, x89, x90, x91, x92, x93, x94, x95, x96, x97, x98, x99, x100, x101, x102, x103, x104, x105, x106, x107, x108, x109, x110, x111, x112, x113, x114, x115, x116, x117, x118, x119, x120, x121, x122, x123, x124, x125, x126, x127, x128, x129, x130, x131, x132, x133, x134, x135, x136, x137, x138, x139, x140, x141, x142, x143, x144, x145, x146, x147, x148, x149, x150, x151, x152, x153, x154, x155, x156, x157, x158, x159, x160, x161, x162, x163, x164, x165, x166, x167, x168, x169, x170, x171, x172, x173, x174, x175, x176, x177, x178, x179, x180, x181, x182, x183, x184, x185, x186, x187, x188, x189, x190, x191, x192, x193, x194, x195, x196, x197, x198, x199, x200, x201, x202, x203, x204, x205, x206, x207, x208, x209, x210, x211, x212, x213, x214, x215, x216, x217, x218, x219, x220, x221, x222, x223, x224, x225, x226, x227, x228, x229, x230, x231, x232, x233, x234, x235, x236, x237, x238, x239, x240, x241, x242, x243, x244, x245, x246, x247, x248, x249, x250, x251, x252, x253, x254, x255, x256, x257, x258, x259, x260, x261, x262, x263, x264, x265, x266, x267, x268, x269, x270, x271, x272, x273, x274, x275, x276, x277, x278, x279, x280, x281, x282, x283, x284, x285, x286, x287, x288, x289, x290, x291, x292, x293, x294, x295, x296, x297, x298, x299, x300, x301, x302, x303, x304, x305, x306, x307, x308, x309, x310, x311, x312, x313, x314, x315, x316, x317, x318, x319, x320, x321, x322, x323, x324, x325, x326, x327, x328, x329, x330, x331, x332, x333, x334, x335, x336, x337, x338, x339, x340, x341, x342, x343, x344, x345, x346, x347, x348, x349, x350, x351, x352, x353, x354, x355, x356, x357, x358, x359, x360, x361, x362, x363, x364, x365, x366, x367, x368, x369, x370, x371, x372, x373, x374, x375, x376, x377, x378, x379, x380, x381, x382, x383, x384, x385, x386, x387, x388, x389, x390, x391, x392, x393, x394, x395, x396, x397, x398, x399, x400, x401, x402, x403, x404, x405, x406, x407, x408, x409, x410, x411, x412, x413, x414, x415, x416, x417, x418, x419, x420, x421, x422, x423, x424, x425, x426, x427, x428, x429, x430, x431, x432, x433, x434, x435, x436, x437, x438, x439, x440, x441, x442, x443, x444, x445, x446, x447, x448, x449, x450, x451, x452, x453, x454, x455, x456, x457, x458, x459, x460, x461, x462, x463, x464, x465, x466, x467, x468, x469], []⟩ w := by
  have hJ7 := hR.lJ
  have HG : Hid (Geo (J.length + 2) O I rk) := hG
  have HR : Hid (Rw c K v D J O I L B (J.length + 2)) := hR
  have HP : Hid (∀ w' K' v' L' B', Below c.base w0 w' → St c K' v' w' → v'.work = v.work → Rw c K' v' D J O I L' B' (J.length + 2) → L' 1 = 0 → (∀ p, 2 ≤ p → p < J.length + 2 → Best L' (O p) (L' p)) → Post (.returned (.bool true)) w') := hP
  have e24 : K 24 = some ⟨28, 1, 1, .slice (some ⟨bx, 0, none⟩) 1 1, [.pointer (some ⟨c.C, 0, none⟩)]⟩ := (hR.rD 24 (by omega) (by omega)).trans hbox
  obtain ⟨x0, hs1, hs2, hs3⟩ := hs
  obtain ⟨fa, fc, hfv, hfg⟩ := hs3.1.sep.shape (k := 12) (by rw [KQ_o _ _ _ _ _ _ _ (by omega) (by omega)]; exact hR.r12)
  have e12 : K 12 = some ⟨3, 1, J.length, .slice fa J.length fc, ints (List.range' 2 J.length)⟩ := by rw [hR.r12, hfv]
  obtain ⟨vsO, eO, hO⟩ := hR.r2.ex
  obtain ⟨gO, cO, hOv, _⟩ := (hs3.1.sep.form (k := 2) (e := ⟨26, 1, J.length + 2, v.out, vsO⟩) (by rw [KQ_o _ _ _ _ _ _ _ (by omega) (by omega)]; exact eO)) |>.2 |>.resolve_left (by rintro ⟨_, h2⟩; simp at h2)
  have hOv : v.out = .slice (some ⟨gO, 0, none⟩) (J.length + 2) cO := hOv
  rw [hOv] at eO
  obtain ⟨gI, cI, hidv, _⟩ := (hs3.1.sep.form (k := 1) (e := ⟨3, 1, J.length + 2, v.ids, ints (0 :: c.N :: J)⟩) (by rw [KQ_o _ _ _ _ _ _ _ (by omega) (by omega)]; exact hR.r1)) |>.2 |>.resolve_left (by rintro ⟨_, h2⟩; simp at h2)
  have hids : v.ids = .slice (some ⟨gI, 0, none⟩) (J.length + 2) cI := hidv
  have e1 : K 1 = some ⟨3, 1, J.length + 2, .slice (some ⟨gI, 0, none⟩) (J.length + 2) cI, ints (0 :: c.N :: J)⟩ := by rw [hR.r1, hids]
  have c0 := hs3.1.sep.cell (k := 24) (by rw [KQ_o _ _ _ _ _ _ _ (by omega) (by omega)]; exact e24) (j := 0) rfl
  have c31 : w.cell? ⟨c.C, 31, none⟩ = some (.slice fa J.length fc) := by rw [← hfv]; exact hs3.1.hC.cell? 31
  have H0 : Hid (DS c K v w0 (J.length + 2) gL cL bq (fun p => if p = 1 then 0 else -1) [] w) := ⟨x0, hs1, hs2, hs3⟩
  have HO : Hid (∀ u, u < J.length + 2 → ∃ r, vsO[u]? = some r ∧ K (300 + u) = some ⟨3, 1, (O u).length, r, ints (O u)⟩) := hO
  clear hG hR hP hs1 hs2 hs3 hO hidv
  conv => arg 2; whnf
  refine wp_seq_k ?_
  intro Kc hKc
  dsimp only
  go_cut [] from 110 to 202 (fun wc => ∃ L' Q', DS c K v w0 (J.length + 2) gL cL bq L' Q' wc ∧ Pc (J.length + 2) O I L' rk Q' J.length)
  case rest =>
    obtain ⟨L', Q', hds, hpc⟩ := hcut
    apply hKc
    have hRL : Rw c (KL K (J.length + 2) gL cL L') v D J O I L' B (J.length + 2) := by
      have hR := HR.out
      unfold KL
      refine hR.turn (fun k h1 h2 h3 h4 h5 h6 => upd_other _ _ h3) rfl (Nat.le_refl _) ?_ ?_ ?_ ?_ ?_
      · rw [upd_other _ _ (by omega)]; exact hR.r6
      · rw [upd_same, hLv]
      · rw [upd_other _ _ (by omega)]; exact hR.r8
      · rw [upd_other _ _ (by omega)]; exact hR.r14
      · rw [upd_other _ _ (by omega)]; exact hR.r18
    have hds' : DS c (KL K (J.length + 2) gL cL L') v w0 (J.length + 2) gL cL bq L' Q' wc := by
      obtain ⟨x, a1, a2, a3⟩ := hds
      refine ⟨x, a1, a2, ?_⟩
      have e : KQ (KL K (J.length + 2) gL cL L') (J.length + 2) gL cL L' Q' x = KQ K (J.length + 2) gL cL L' Q' x := by unfold KQ KL; rw [upd_upd]
      rw [e]
      exact a3
    refine spD c _ D v wc w0 J O I L' rk Q' B bx bq gL cL bud Post hLv hRL hbox hB HG.out (hpc.done HG.out rfl) ?_ hds' HP.out
    have := pots_le L' (J.length + 2) (fun p => by have := hpc.bd p; have := HG.out.r7 p; omega)
    have := hpc.len
    omega
  case first =>
    go_wp2_with fail
    go_loopw [115] (fun iv wr => ∃ (i : Nat) (L1 : Nat → Int) (Q1 : List Nat), i ≤ J.length ∧ iv = .int .i64 i ∧ DS c K v w0 (J.length + 2) gL cL bq L1 Q1 wr ∧ Pc (J.length + 2) O I L1 rk Q1 i) (fun iv _ => J.length - (intOf iv).toNat)
    case atStart => exact ⟨0, _, [], Nat.zero_le _, rfl, H0.out, Pc.start HG.out⟩
    case round =>
      clear c0 c31
      obtain ⟨i, L1, Q1, hi, rfl, ⟨x, q1, q2, q3⟩, hpc⟩ := hrel
      have HPC : Hid (Pc (J.length + 2) O I L1 rk Q1 i) := hpc
      clear hpc
      by_cases hil : i < J.length
      · have hil' : (i : Int) < (J.length : Int) := by omega
        obtain ⟨gf, rfl⟩ := hfg (by omega)
        obtain ⟨y0, hvp, hkp⟩ := HO.out (i + 2) (by omega)
        obtain ⟨ya, yc, hy0, hyg⟩ := q3.1.sep.shape (k := 300 + (i + 2)) (by rw [KQ_o _ _ _ _ _ _ _ (by omega) (by omega)]; exact hkp)
        subst hy0
        have cf := q3.1.sep.cell (k := 12) (by rw [KQ_o _ _ _ _ _ _ _ (by omega) (by omega)]; exact e12) (ints_at (v := i + 2) (by rw [List.getElem?_range' hil]; simp; omega))
        have c0 := q3.1.sep.cell (k := 24) (by rw [KQ_o _ _ _ _ _ _ _ (by omega) (by omega)]; exact e24) (j := 0) rfl
        have c10 : wr.cell? ⟨c.C, 10, none⟩ = some (.slice (some ⟨gO, 0, none⟩) (J.length + 2) cO) := by rw [← hOv]; exact q3.1.hC.cell? 10
        have co := q3.1.sep.cell (k := 2) (by rw [KQ_o _ _ _ _ _ _ _ (by omega) (by omega)]; exact eO) hvp
        have hii : ((i : Int) + 2) < ((J.length : Int) + 2) := by omega
        have hOb := HR.out.bO (i + 2)
        have H1 : PIn c K v w0 (J.length + 2) gL cL bq L1 Q1 x (O (i + 2)) (i + 2) 0 wr := by
          refine ⟨-1, q1, q2, ?_, Best.nil L1⟩
          have e : (fun y => if y = i + 2 then -1 else L1 y) = L1 := by
            funext y
            by_cases hy : y = i + 2
            · rw [if_pos hy, hy, HPC.out.z _ (Nat.le_refl _)]
            · rw [if_neg hy]
          rw [e]
          exact q3
        clear q1 q2 q3
        go_wp2_with fail
        go_loopw [127] (fun iv wq => ∃ j : Nat, j ≤ (O (i + 2)).length ∧ iv = .int .i64 j ∧ PIn c K v w0 (J.length + 2) gL cL bq L1 Q1 x (O (i + 2)) (i + 2) j wq) (fun iv _ => (O (i + 2)).length - (intOf iv).toNat)
        case atStart => exact ⟨0, Nat.zero_le _, rfl, H1⟩
        case round =>
          clear H1 cf c0 c10 co
          obtain ⟨j, hj, rfl, r, r1, r2, r3, hbs⟩ := hrel
          have E7 := KQ_7 K (J.length + 2) gL cL (fun y => if y = i + 2 then r else L1 y) Q1 x
          have HBS : Hid (Best L1 ((O (i + 2)).take j) r) := hbs
          have hrb := hbs.bd (b := 7) (fun y _ => by have := HPC.out.bd y; have := HG.out.r7 y; omega) (by omega)
          clear hbs
          by_cases hjl : j < (O (i + 2)).length
          · have hjl' : (j : Int) < ((O (i + 2)).length : Int) := by omega
            obtain ⟨gy, rfl⟩ := hyg (by omega)
            obtain ⟨y, hy⟩ : ∃ y, (O (i + 2))[j]? = some y := ⟨_, List.getElem?_eq_getElem hjl⟩
            obtain ⟨hy1, hyM, _, _, hyr⟩ := HG.out.e _ _ (List.mem_of_getElem? hy)
            have hyn : y ≠ i + 2 := by rintro rfl; omega
            obtain ⟨yi, hyi⟩ : ∃ yi, (0 :: c.N :: J)[y]? = some yi := ⟨_, List.getElem?_eq_getElem (by simp; omega)⟩
            have E24 : KQ K (J.length + 2) gL cL (fun y => if y = i + 2 then r else L1 y) Q1 x 24 = some ⟨28, 1, 1, .slice (some ⟨bx, 0, none⟩) 1 1, [.pointer (some ⟨c.C, 0, none⟩)]⟩ := by rw [KQ_o _ _ _ _ _ _ _ (by omega) (by omega)]; exact e24
            have E1 : KQ K (J.length + 2) gL cL (fun y => if y = i + 2 then r else L1 y) Q1 x 1 = some ⟨3, 1, J.length + 2, .slice (some ⟨gI, 0, none⟩) (J.length + 2) cI, ints (0 :: c.N :: J)⟩ := by rw [KQ_o _ _ _ _ _ _ _ (by omega) (by omega)]; exact e1
            have Ek : KQ K (J.length + 2) gL cL (fun y => if y = i + 2 then r else L1 y) Q1 x (300 + (i + 2)) = some ⟨3, 1, (O (i + 2)).length, .slice (some ⟨gy, 0, none⟩) (O (i + 2)).length yc, ints (O (i + 2))⟩ := by rw [KQ_o _ _ _ _ _ _ _ (by omega) (by omega)]; exact hkp
            have cy := r3.1.sep.cell Ek (ints_at hy)
            have c0 := r3.1.sep.cell E24 (j := 0) rfl
            have ci := r3.1.sep.cell E1 (ints_at hyi)
            have t2 : wr.cell? ⟨c.TT, 2, none⟩ = some (.slice (some ⟨gL, 0, none⟩) (J.length + 2) cL) := by rw [← hLv]; exact r3.1.hTT.cell? 2
            have cLy := r3.1.sep.cell E7 (rowOf_get _ hyM)
            simp only [if_neg hyn] at cLy
            have hyM' : (y : Int) < ((J.length : Int) + 2) := by omega
            have hLy := HPC.out.bd y
            have hry := HG.out.r7 y
            go_upto_region 24 with fail
            go_quiet ((go_at_call 52; exact Calls.quiet_of_same (cost_calls c _ v _ (r3.1.drewN _) gI (J.length + 2) cI y (yi : Int) hids hyM ci)))
            have hq3 := r3.drewN nq
            have hbq := below_drewN r1 nq
            have hsq : c.base ≤ (wr.drewN nq).heap.size := r2
            generalize wr.drewN nq = wq at hq3 hbq hsq ⊢
            clear r1 r2 r3 cy c0 ci t2 cLy
            have t2 : wq.cell? ⟨c.TT, 2, none⟩ = some (.slice (some ⟨gL, 0, none⟩) (J.length + 2) cL) := by rw [← hLv]; exact hq3.1.hTT.cell? 2
            have cLy := hq3.1.sep.cell E7 (rowOf_get _ hyM)
            simp only [if_neg hyn] at cLy
            have cLp := hq3.1.sep.cell E7 (rowOf_get _ (u := i + 2) (by omega))
            simp only [if_true] at cLp
            have fLp := hq3.1.sep.free E7 (i + 2)
            have s3 := hq3.put (i + 2) (L1 y + 1)
            have s1 : Below c.base w0 (wq.setCell ⟨gL, i + 2, none⟩ (.int .i64 (L1 y + 1))) := hbq.setCell (hq3.1.sep.lt E7 gL rfl).1 _
            have s2 : c.base ≤ (wq.setCell ⟨gL, i + 2, none⟩ (.int .i64 (L1 y + 1))).heap.size := by simpa using hsq
            by_cases hy0 : 0 ≤ L1 y
            · by_cases hr0 : r < 0
              · have HTK : Hid (r < 0 ∨ L1 y + 1 < r) := .inl hr0
                go_upto_region 26 with fail
                go_wp2_with fail
                refine ⟨⟨j + 1, by omega, by go_num, L1 y + 1, s1, s2, ?_, ?_⟩, by simp [intOf]; omega⟩
                · have e : (fun z => if z = i + 2 then L1 y + 1 else (fun y => if y = i + 2 then r else L1 y) z) = (fun z => if z = i + 2 then L1 y + 1 else L1 z) := by funext z; by_cases hz : z = i + 2 <;> simp [hz]
                  rw [e] at s3
                  exact s3
                · rw [List.take_add_one, hy]
                  exact HBS.out.take hy0 HTK.out
              · have hr0' : ¬ (r < 0) := hr0
                by_cases hlt : L1 y + 1 < r
                · have HTK : Hid (r < 0 ∨ L1 y + 1 < r) := .inr hlt
                  go_upto_region 26 with fail
                  go_wp2_with fail
                  refine ⟨⟨j + 1, by omega, by go_num, L1 y + 1, s1, s2, ?_, ?_⟩, by simp [intOf]; omega⟩
                  · have e : (fun z => if z = i + 2 then L1 y + 1 else (fun y => if y = i + 2 then r else L1 y) z) = (fun z => if z = i + 2 then L1 y + 1 else L1 z) := by funext z; by_cases hz : z = i + 2 <;> simp [hz]
                    rw [e] at s3
                    exact s3
                  · rw [List.take_add_one, hy]
                    exact HBS.out.take hy0 HTK.out
                · have hlt' : ¬ (L1 y + 1 < r) := hlt
                  go_wp2_with fail
                  refine ⟨⟨j + 1, by omega, by go_num, r, hbq, hsq, hq3, ?_⟩, by simp [intOf]; omega⟩
                  rw [List.take_add_one, hy]
                  exact HBS.out.keep (by omega)
            · have hy0' : L1 y < 0 := by omega
              go_wp2_with fail
              refine ⟨⟨j + 1, by omega, by go_num, r, hbq, hsq, hq3, ?_⟩, by simp [intOf]; omega⟩
              rw [List.take_add_one, hy]
              exact HBS.out.keep (by omega)
          · have hjl' : ¬ ((j : Int) < ((O (i + 2)).length : Int)) := by omega
            obtain rfl : j = (O (i + 2)).length := by omega
            obtain ⟨p1, p2, p3, p4⟩ := HPC.out.step HG.out (by omega) (by rw [List.take_length] at HBS; exact HBS.out : Best L1 (O (i + 2)) r)
            have t2 : wr.cell? ⟨c.TT, 2, none⟩ = some (.slice (some ⟨gL, 0, none⟩) (J.length + 2) cL) := by rw [← hLv]; exact r3.1.hTT.cell? 2
            have cLp := r3.1.sep.cell E7 (rowOf_get _ (u := i + 2) (by omega))
            simp only [if_true] at cLp
            by_cases hr0 : 0 ≤ r
            · obtain ⟨l, hl⟩ : ∃ l : Nat, r = (l : Int) := ⟨r.toNat, by omega⟩
              have HNX : Hid (Pc (J.length + 2) O I (fun y => if y = i + 2 then r else L1 y) rk (Q1 ++ [kq l (i + 2)]) (i + 1)) := p3 l hl
              have HKEY : Hid _ := key_or3 l (by omega) (i + 2) (by omega)
              have hcc : ((i + 2 : Nat) : Int) = (i : Int) + 2 := by omega
              have HKEY2 : Hid _ := hcc ▸ HKEY.out
              have hln := HPC.out.len
              rw [hl] at cLp
              clear p3 p4
              go_wp2_with (go_at_call 53; rw [HKEY2.out]; refine Calls.mono (heapPush_calls (locG c v bq) _ 1015 (kq l (i + 2)) x Q1 wr (KQ_q _ _ _ _ _ _ _) r3 r2 (by omega)) ?_; rintro e w8 ⟨rfl, g8, c8, ⟨Q8, hQ8, hg8⟩, hbl8⟩)
              refine ⟨⟨i + 1, _, Q8, by omega, by go_num, ⟨.slice (some ⟨g8, 0, none⟩) (Q1.length + 1) c8, r1.trans hbl8, by have := hbl8.size; omega, ?_⟩, HNX.out.perm hQ8⟩, by simp [intOf]; omega⟩
              have hl8 : Q8.length = Q1.length + 1 := by have := hQ8.length_eq; simpa using this
              unfold KQ at hg8 ⊢
              rw [upd_upd] at hg8
              rw [hl8]
              exact hg8
            · have hr0' : r < 0 := by omega
              have HNX : Hid (Pc (J.length + 2) O I (fun y => if y = i + 2 then r else L1 y) rk Q1 (i + 1)) := p4 hr0'
              clear p3 p4
              go_wp2_with fail
              exact ⟨⟨i + 1, _, Q1, by omega, by go_num, ⟨x, r1, r2, r3⟩, HNX.out⟩, by simp [intOf]; omega⟩
      · have hil' : ¬ ((i : Int) < (J.length : Int)) := by omega
        obtain rfl : i = J.length := by omega
        go_wp2_with fail
        go_meet
        exact ⟨L1, Q1, ⟨x, q1, q2, q3⟩, HPC.out⟩
end Go.Proofs.Ybulkuoc
