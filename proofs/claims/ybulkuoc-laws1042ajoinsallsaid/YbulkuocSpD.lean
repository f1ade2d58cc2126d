/- spread: the rounds of the heap. -/
import Derived.Test.YbulkuocSpE
import Derived.Test.YbulkuocSpDb
namespace Go.Proofs.Ybulkuoc
open Go.RowKit

set_option maxRecDepth 20000 in
theorem key_and : ∀ l, l < 10 → ∀ p, p < 10 → bits BinOp.and IntKind.u64 ((kq l p : Nat) : Int) 4294967295 = ((p : Nat) : Int) := by decide
theorem key_shr (l p : Nat) (hp : p < 10) : ((kq l p : Nat) : Int) / 4294967296 = (l : Int) := by unfold kq; omega
set_option maxRecDepth 20000 in
theorem key_or2 : ∀ l, l < 9 → ∀ p, p < 10 → bits BinOp.or IntKind.u64 ((((l : Nat) : Int) + 1) * 4294967296) ((p : Nat) : Int) = ((kq (l + 1) p : Nat) : Int) := by decide
theorem locG (c : Tc) (v : Tv) (bq : Nat) : Loc c bq 0 (QG c v bq) := locQ c v bq

/-- Inside a round: p's length is l; the first j that lead to p hold to it. -/
def DIn (c : Tc) (K : Nat → Option Ent) (v : Tv) (w0 : World) (M gL cL bq : Nat) (O I : Nat → List Nat) (rk : Nat → Nat) (l p m0 j : Nat) (w : World) : Prop :=
  ∃ L Q, DS c K v w0 M gL cL bq L Q w ∧ Dj M O I L rk Q (fun q => q = p) ∧ L p = (l : Int) ∧ (∀ u ∈ (I p).take j, 0 ≤ L u ∧ L u ≤ (l : Int) + 1) ∧ 2 * pots L M + Q.length ≤ m0

set_option maxRecDepth 40000 in
set_option maxHeartbeats 12800000 in
theorem spD (c : Tc) (K D : Nat → Option Ent) (v : Tv) (w w0 : World) (J : List Nat) (O I : Nat → List Nat) (L : Nat → Int) (rk : Nat → Nat) (Q : List Nat) (B bx bq gL cL : Nat) (bud : Int) (Post : Ending → World → Prop) (hLv : v.len = .slice (some ⟨gL, 0, none⟩) (J.length + 2) cL) (hR : Rw c K v D J O I L B (J.length + 2)) (hbox : D 24 = some ⟨28, 1, 1, .slice (some ⟨bx, 0, none⟩) 1 1, [.pointer (some ⟨c.C, 0, none⟩)]⟩) (hB : B ≤ 6000)
    (hG : Geo (J.length + 2) O I rk) (hD : Dj (J.length + 2) O I L rk Q (fun _ => False)) (hm : 2 * pots L (J.length + 2) + Q.length ≤ 400) (hs : DS c K v w0 (J.length + 2) gL cL bq L Q w)
    (hP : ∀ w' K' v' L' B', Below c.base w0 w' → St c K' v' w' → v'.work = v.work → Rw c K' v' D J O I L' B' (J.length + 2) → L' 1 = 0 → (∀ p, 2 ≤ p → p < J.length + 2 → Best L' (O p) (L' p)) → Post (.returned (.bool true)) w') {x3 x5 x8 x9 x11 x12 x13 x14 x15 x16 x17 x18 x19 x20 x21 x22 x23 x24 x25 x26 x27 x28 x29 x30 x31 x32 x33 x34 x35 x36 x37 x38 x39 x40 x41 x42 x43 x44 x45 x46 x47 x48 x49 x50 x51 x52 x53 x54 x55 x56 x57 x58 x59 x60 x61 x62 x63 x64 x65 x66 x67 x68 x69 x70 x71 x72 x73 x74 x75 x76 x77 x78 x79 x80 x81 x82 x83 x84 x85 x86 x87 x88 x89 x90 x91 x92 x93 x94 x95 x96 x97 x98 x99 x100 x101 x102 x103 x104 x105 x106 x107 x108 x109 x110 x111 x112 x113 x114 x115 x116 x117 x118 x119 x120 x121 x122 x123 x124 x125 x126 x127 x128 x129 x130 x131 x132 x133 x134 x135 x136 x137 x138 x139 x140 x141 x142 x143 x144 x145 x146 x147 x148 x149 x150 x151 x152 x153 x154 x155 x156 x157 x158 x159 x160 x161 x162 x163 x164 x165 x166 x167 x168 x169 x170 x171 x172 x173 x174 x175 x176 x177 x178 x179 x180 x181 x182 x183 x184 x185 x186 x187 x188 x189 x190 x191 x192 x193 x194 x195 x196 x197 x198 x199 x200 x201 x202 x203 x204 x205 x206 x207 x208 x209 x210 x211 x212 x213 x214 x215 x216 x217 x218 x219 x220 x221 x222 x223 x224 x225 x226 x227 x228 x229 x230 x231 x232 x233 x234 x235 x236 x237 x238 x239 x240 x241 x242 x243 x244 x245 x246 x247 x248 x249 x250 x251 x252 x253 x254 x255 x256 x257 x258 x259 x260 x261 x262 x263 x264 x265 x266 x267 x268 x269 x270 x271 x272 x273 x274 x275 x276 x277 x278 x279 x280 x281 x282 x283 x284 x285 x286 x287 x288 x289 x290 x291 x292 x293 x294 x295 x296 x297 x298 x299 x300 x301 x302 x303 x304 x305 x306 x307 x308 x309 x310 x311 x312 x313 x314 x315 x316 x317 x318 x319 x320 x321 x322 x323 x324 x325 x326 x327 x328 x329 x330 x331 x332 x333 x334 x335 x336 x337 x338 x339 x340 x341 x342 x343 x344 x345 x346 x347 x348 x349 x350 x351 x352 x353 x354 x355 x356 x357 x358 x359 x360 x361 x362 x363 x364 x365 x366 x367 x368 x369 x370 x371 x372 x373 x374 x375 x376 x377 x378 x379 x380 x381 x382 x383 x384 x385 x386 x387 x388 x389 x390 x391 x392 x393 x394 x395 x396 x397 x398 x399 x400 x401 x402 x403 x404 x405 x406 x407 x408 x409 x410 x411 x412 x413 x414 x415 x416 x417 x418 x419 x420 x421 x422 x423 x424 x425 x426 x427 x428 x429 x430 x431 x432 x433 x434 x435 x436 x437 x438 x439 x440 x441 x442 x443 x444 x445 x446 x447 x448 x449 x450 x451 x452 x453 x454 x455 x456 x457 x458 x459 x460 x461 x462 x463 x464 x465 x466 x467 x468 x469 : Value} :
    Code.wp Yba.prog (dropSeq 9 (Yba.f31.body.getD .skip)) (bodyPost Yba.prog Yba.f31 Post) ⟨#[.pointer (some ⟨c.C, 0, none⟩), .int .i64 bud, .pointer (some ⟨bx, 0, none⟩), x3, .bool false, x5, .pointer (some ⟨c.TT, 0, none⟩), .func (.func 51) #[] #[.pointer (some ⟨bx, 0, none⟩)], x8, x9, .pointer (some ⟨bq, 0, none⟩), x11, x12, x13, x14, x15, x16, x17, x18, x19, x20, x21, x22, x23, x24, x25, x26, x27, x28, x29, x30, x31, x32, x33, x34, x35, x36, x37, x38, x39, x40, x41, x42, x43, x44, x45, x46, x47, x48, x49, x50, x51, x52, x53, x54, x55, x56, x57, x58, x59, x60, x61, x62, x63, x64, x65, x66, x67, x68, x69, x70, x71, x72, x73, x74, x75, x76, x77, x78, x79, x80, x81, x82, x83, x84, x85, x86, x87, x88, x89, x90, x91, x92, x93, x94, x95, x96, x97, x98, x99, x100, x101, x102, x103, x104, x105, x106, x107, x108, x109, x110, x111, x112, x113, x114, x115, x116, x117, x118, x119, x120, x121, x122, x123, x124, x125, x126, x127, x128, x129, x130, x131, x132, x133, x134, x135, x136, x137, x138, x139, x140, x141, x142, x143, x144, x145, x146, x147, x148, x149, x150, x151, x152, x153, x154, x155, x156, x157, x158, x159, x160, x161, x162, x163, x164, x165, x166, x167, x168, x169, x170, x171, x172, x173, x174, x175, x176, x177, x178, x179, x180, x181, x182, x183, x184, x185, x186, x187, x188, x189, x190, x191, x192, x193, x194, x195, x196, x197, x198, x199, x200, x201, x202, x203, x204, x205, x206, x207, x208, x209, x210, x211, x212, x213, x214, x215, x216, x217, x218, x219, x220, x221, x222, x223, x224, x225, x226, x227, x228, x229, x230, x231, x232, x233, x234, x235, x236, x237, x238, x239, x240, x241, x242, x243, x244, x245, x246, x247, x248, x249, x250, x251, x252, x253, x254, x255, x256, x257, x258, x259, x260, x261, x262, x263, x264, x265, x266, x267, x268, x269, x270, x271, x272, x273, x274, x275, x276, x277, x278, x279, x280, x281, x282, x283, x284, x285, x286, x287, x288, x289, x290, x291, x292, x293, x294, x295, x296, x297, x298, x299, x300, x301, x302, x303, x304, x305, x306, x307, x308, x309, x310, x311, x312, x313, x314, x315, x316, x317, x318, x319, x320, x321, x322, x323, x324, x325, x326, x327, x328, x329, x330, x331, x332, x333, x334, x335, x336, x337, x338, x339, x340, x341, x342, x343, x344, x345, x346, x347, x348, x349, x350, x351, x352, x353, x354, x355, x356, x357, x358, x359, x360, x361, x362, x363, x364, x365, x366, x367, x368, x369, x370, x371, x372, x373, x374, x375, x376, x377, x378, x379, x380, x381, x382, x383, x384, x385, x386, x387, x388, x389, x390, x391, x392, x393, x394, x395, x396, x397, x398, x399, x400, x401, x402, x403, x404, x405, x406, x407, x408, x409, x410, x411, x412, x413, x414, x415, x416, x417, x418, x419, x420, x421, x422, x423, x424, x425, x426, x427, x428, x429, x430, x431, x432, x433, x434, x435, x436, x437, x438, x439, x440, x441, x442, x443, x444, x445, x446, x447, x448, x449, x450, x451, x452, x453, x454, x455, x456, x457, x458, x459, x460, x461, x462, x463, x464, x465, x466, x467, x468, x469], []⟩ w := by
  have hJ7 := hR.lJ
  have HG : Hid (Geo (J.length + 2) O I rk) := hG
  have HR : Hid (Rw c K v D J O I L B (J.length + 2)) := hR
  have HP : Hid (∀ w' K' v' L' B', Below c.base w0 w' → St c K' v' w' → v'.work = v.work → Rw c K' v' D J O I L' B' (J.length + 2) → L' 1 = 0 → (∀ p, 2 ≤ p → p < J.length + 2 → Best L' (O p) (L' p)) → Post (.returned (.bool true)) w') := hP
  have hRL : ∀ L' Q' x, Rw c (KQ K (J.length + 2) gL cL L' Q' x) v D J O I L' B (J.length + 2) := by
    intro L' Q' x
    refine hR.turn (fun k h1 h2 h3 h4 h5 h6 => KQ_o _ _ _ _ _ _ _ h3 (by omega)) rfl (Nat.le_refl _) ?_ ?_ ?_ ?_ ?_
    · rw [KQ_o _ _ _ _ _ _ _ (by omega) (by omega)]; exact hR.r6
    · rw [KQ_7, hLv]
    · rw [KQ_o _ _ _ _ _ _ _ (by omega) (by omega)]; exact hR.r8
    · rw [KQ_o _ _ _ _ _ _ _ (by omega) (by omega)]; exact hR.r14
    · rw [KQ_o _ _ _ _ _ _ _ (by omega) (by omega)]; exact hR.r18
  have HRL : Hid (∀ L' Q' x, Rw c (KQ K (J.length + 2) gL cL L' Q' x) v D J O I L' B (J.length + 2)) := hRL
  have H0 : Hid (DS c K v w0 (J.length + 2) gL cL bq L Q w ∧ Dj (J.length + 2) O I L rk Q (fun _ => False)) := ⟨hs, hD⟩
  clear hG hR hP hRL hs hD
  conv => arg 2; whnf
  refine wp_seq_k ?_
  intro Kc hKc
  dsimp only
  go_cut [] from 203 to 281 (fun wc => ∃ L', DS c K v w0 (J.length + 2) gL cL bq L' [] wc ∧ Dj (J.length + 2) O I L' rk [] (fun _ => False))
  case rest =>
    obtain ⟨L', ⟨x, q1, q2, q3⟩, hD'⟩ := hcut
    apply hKc
    refine spE c _ D v wc w0 J O I L' B bx bud Post q3.1 (HRL.out L' [] x) hbox (fun p => ?_) hB q1 q2 (fun p y hy => ?_) (hD'.fix HG.out) (fun w' K' v' B' a1 a2 a3 a4 => HP.out w' K' v' L' B' a1 a2 a3 a4 hD'.l1 (hD'.fix HG.out))
    · have := hD'.bd p; have := HG.out.r7 p; omega
    · obtain ⟨h1, h2, h3, h4, h5⟩ := HG.out.e p y hy
      exact ⟨h2, by rintro rfl; omega⟩
  case first =>
    go_wp2_with fail
    go_loopw [] (fun wr => ∃ L' Q', DS c K v w0 (J.length + 2) gL cL bq L' Q' wr ∧ Dj (J.length + 2) O I L' rk Q' (fun _ => False) ∧ 2 * pots L' (J.length + 2) + Q'.length ≤ 400) (fun wr => measW gL (J.length + 2) bq wr)
    case atStart => exact ⟨L, Q, H0.out.1, H0.out.2, hm⟩
    case round =>
      obtain ⟨L1, Q1, ⟨x, q1, q2, q3⟩, hD1, hm1⟩ := hrel
      have hmeas := q3.meas
      obtain ⟨ra, rc, hx, hrg⟩ := q3.1.sep.shape (KQ_q K (J.length + 2) gL cL L1 Q1 x)
      have hcell : wr.cell? ⟨bq, 0, none⟩ = some x := q3.2.1.cell? 0
      rw [hx] at hcell
      have HD1 : Hid (Dj (J.length + 2) O I L1 rk Q1 (fun _ => False)) := hD1
      have HMS : Hid (measW gL (J.length + 2) bq wr = 2 * pots L1 (J.length + 2) + Q1.length) := hmeas
      clear hD1 hmeas
      cases hq : Q1.length with
      | zero =>
        have hq0 : Q1 = [] := List.length_eq_zero_iff.1 hq
        subst hq0
        simp only [List.length_nil] at hcell
        go_wp2_with fail
        go_meet
        exact ⟨L1, ⟨x, q1, q2, q3⟩, HD1.out⟩
      | succ n =>
        obtain ⟨g, hg⟩ := hrg (by omega)
        rw [hg, hq] at hcell
        have hxe : x = .slice (some ⟨g, 0, none⟩) (n + 1) rc := by rw [hx, hg, hq]
        have q3' : QG c v bq (upd (KL K (J.length + 2) gL cL L1) 1015 ⟨22, 1, n + 1, .slice (some ⟨g, 0, none⟩) (n + 1) rc, u64s Q1⟩) (.slice (some ⟨g, 0, none⟩) (n + 1) rc) wr := by
          have q4 := q3
          unfold KQ at q4
          rw [hxe, hq] at q4
          exact q4
        have hta := ta22
        have hnp : (0 : Int) < ((n + 1 : Nat) : Int) := by omega
        clear hrg hx hg q3
        go_upto_region 33 with (go_at_call 54; refine Calls.mono (heapPop_calls (locG c v bq) (KL K (J.length + 2) gL cL L1) 1015 g rc n Q1 wr q3' hq (by omega)) ?_; rintro e w2 ⟨key, Q2, rfl, hbl2, hp2, hl2, hg2⟩)
        obtain ⟨l, p, hkey, hl10, hpp2, hppM⟩ := HD1.out.k key (hp2.subset (List.mem_cons_self ..))
        subst hkey
        have hand := key_and l hl10 p (by omega)
        have hshr := key_shr l p (by omega)
        have hg2' : QG c v bq (KQ K (J.length + 2) gL cL L1 Q2 (.slice (some ⟨g, 0, none⟩) n rc)) (.slice (some ⟨g, 0, none⟩) n rc) w2 := by unfold KQ; rw [hl2]; exact hg2
        have hDs := HD1.out.perm hp2
        have hbl2' := q1.trans hbl2
        have hsz2 : c.base ≤ w2.heap.size := by have := hbl2.size; omega
        have cLp := hg2'.1.sep.cell (KQ_7 K (J.length + 2) gL cL L1 Q2 (.slice (some ⟨g, 0, none⟩) n rc)) (rowOf_get L1 hppM)
        have t2 : w2.cell? ⟨c.TT, 2, none⟩ = some (.slice (some ⟨gL, 0, none⟩) (J.length + 2) cL) := by rw [← hLv]; exact hg2'.1.hTT.cell? 2
        have hpM' : (p : Int) < ((J.length : Int) + 2) := by omega
        have HDS : Hid (Dj (J.length + 2) O I L1 rk (kq l p :: Q2) (fun _ => False)) := hDs
        obtain ⟨ky, hky⟩ : ∃ ky : Nat, ky = kq l p := ⟨_, rfl⟩
        rw [← hky] at hand hshr ⊢
        clear hg2 hDs hky hcell hp2 q3'
        go_upto_region 34 with fail
        by_cases heq : L1 p = (l : Int)
        · have hne' : (L1 p != (l : Int)) = false := by rw [heq]; simp
          obtain ⟨vsN, eN, hN⟩ := HR.out.r3.ex
          obtain ⟨gN, cN, hNv, _⟩ := (hg2'.1.sep.form (k := 3) (e := ⟨26, 1, J.length + 2, v.inn, vsN⟩) (by rw [KQ_o _ _ _ _ _ _ _ (by omega) (by omega)]; exact eN)) |>.2 |>.resolve_left (by rintro ⟨_, h2⟩; simp at h2)
          have hNv : v.inn = .slice (some ⟨gN, 0, none⟩) (J.length + 2) cN := hNv
          rw [hNv] at eN
          obtain ⟨y0, hvp, hkp⟩ := hN p hppM
          obtain ⟨ya, yc, hy0, hyg⟩ := hg2'.1.sep.shape (k := 400 + p) (by rw [KQ_o _ _ _ _ _ _ _ (by omega) (by omega)]; exact hkp)
          subst hy0
          obtain ⟨gI, cI, hidv, _⟩ := (hg2'.1.sep.form (k := 1) (e := ⟨3, 1, J.length + 2, v.ids, ints (0 :: c.N :: J)⟩) (by rw [KQ_o _ _ _ _ _ _ _ (by omega) (by omega)]; exact HR.out.r1)) |>.2 |>.resolve_left (by rintro ⟨_, h2⟩; simp at h2)
          have hids : v.ids = .slice (some ⟨gI, 0, none⟩) (J.length + 2) cI := hidv
          have e1 : K 1 = some ⟨3, 1, J.length + 2, .slice (some ⟨gI, 0, none⟩) (J.length + 2) cI, ints (0 :: c.N :: J)⟩ := by rw [HR.out.r1, hids]
          have e24 : K 24 = some ⟨28, 1, 1, .slice (some ⟨bx, 0, none⟩) 1 1, [.pointer (some ⟨c.C, 0, none⟩)]⟩ := (HR.out.rD 24 (by omega) (by omega)).trans hbox
          have c0 := hg2'.1.sep.cell (k := 24) (by rw [KQ_o _ _ _ _ _ _ _ (by omega) (by omega)]; exact e24) (j := 0) rfl
          have c11 : w2.cell? ⟨c.C, 11, none⟩ = some (.slice (some ⟨gN, 0, none⟩) (J.length + 2) cN) := by rw [← hNv]; exact hg2'.1.hC.cell? 11
          have cr := hg2'.1.sep.cell (k := 3) (by rw [KQ_o _ _ _ _ _ _ _ (by omega) (by omega)]; exact eN) hvp
          have H1 : DIn c K v w0 (J.length + 2) gL cL bq O I rk l p (2 * pots L1 (J.length + 2) + n) 0 w2 := ⟨L1, Q2, ⟨_, hbl2', hsz2, hg2'⟩, HDS.out.open HG.out hppM, heq, by simp, by omega⟩
          have hIb := HR.out.bI p
          clear hN hidv hg2' hbl2' hsz2 hbl2
          go_wp2_with fail
          clear cLp t2
          go_loopw [232] (fun iv wq => ∃ j : Nat, j ≤ (I p).length ∧ iv = .int .i64 j ∧ DIn c K v w0 (J.length + 2) gL cL bq O I rk l p (2 * pots L1 (J.length + 2) + n) j wq) (fun iv _ => (I p).length - (intOf iv).toNat)
          case atStart => exact ⟨0, Nat.zero_le _, rfl, H1⟩
          case round =>
            clear H1 c0 c11 cr
            obtain ⟨j, hj, rfl, L2, Q3, ⟨x3', r1, r2, r3⟩, hD2, hLp, hpre, hm2⟩ := hrel
            by_cases hjl : j < (I p).length
            · have hjl' : (j : Int) < ((I p).length : Int) := by omega
              obtain ⟨gy, rfl⟩ := hyg (by omega)
              obtain ⟨u, hu⟩ : ∃ u, (I p)[j]? = some u := ⟨_, List.getElem?_eq_getElem hjl⟩
              have huI := List.mem_of_getElem? hu
              obtain ⟨_, _, hu2, huM, _⟩ := HG.out.e u p ((HG.out.sym u p).1 huI)
              have hup : u ≠ p := by
                rintro rfl
                have := (HG.out.e u u ((HG.out.sym u u).1 huI)).2.2.2.2
                omega
              obtain ⟨ui, hui⟩ : ∃ ui, (0 :: c.N :: J)[p]? = some ui := ⟨_, List.getElem?_eq_getElem (by simp; omega)⟩
              have E7 := KQ_7 K (J.length + 2) gL cL L2 Q3 x3'
              have E24 : KQ K (J.length + 2) gL cL L2 Q3 x3' 24 = some ⟨28, 1, 1, .slice (some ⟨bx, 0, none⟩) 1 1, [.pointer (some ⟨c.C, 0, none⟩)]⟩ := by rw [KQ_o _ _ _ _ _ _ _ (by omega) (by omega)]; exact e24
              have E1 : KQ K (J.length + 2) gL cL L2 Q3 x3' 1 = some ⟨3, 1, J.length + 2, .slice (some ⟨gI, 0, none⟩) (J.length + 2) cI, ints (0 :: c.N :: J)⟩ := by rw [KQ_o _ _ _ _ _ _ _ (by omega) (by omega)]; exact e1
              have Ek : KQ K (J.length + 2) gL cL L2 Q3 x3' (400 + p) = some ⟨3, 1, (I p).length, .slice (some ⟨gy, 0, none⟩) (I p).length yc, ints (I p)⟩ := by rw [KQ_o _ _ _ _ _ _ _ (by omega) (by omega)]; exact hkp
              have cu := r3.1.sep.cell Ek (ints_at hu)
              have c0 := r3.1.sep.cell E24 (j := 0) rfl
              have ci := r3.1.sep.cell E1 (ints_at hui)
              have huM' : (u : Int) < ((J.length : Int) + 2) := by omega
              have hLub := hD2.bd u
              have hru := HG.out.r7 u
              have hl7 : (l : Int) ≤ 7 := by have := hD2.bd p; have := HG.out.r7 p; omega
              have HD2 : Hid (Dj (J.length + 2) O I L2 rk Q3 (fun q => q = p)) := hD2
              have HPRE : Hid (∀ u ∈ (I p).take j, 0 ≤ L2 u ∧ L2 u ≤ (l : Int) + 1) := hpre
              have HM2 : Hid (2 * pots L2 (J.length + 2) + Q3.length ≤ 2 * pots L1 (J.length + 2) + n) := hm2
              have HLP : Hid (L2 p = (l : Int)) := hLp
              clear hD2 hpre hm2 hLp
              go_upto_region 39 with (go_at_call 52; refine Calls.mono (cost_calls c _ v _ r3.1 gI (J.length + 2) cI p (ui : Int) hids hppM ci) ?_; rintro e w5 ⟨rfl, rfl⟩)
              have t2 : w5.cell? ⟨c.TT, 2, none⟩ = some (.slice (some ⟨gL, 0, none⟩) (J.length + 2) cL) := by rw [← hLv]; exact r3.1.hTT.cell? 2
              have cLu := r3.1.sep.cell E7 (rowOf_get L2 huM)
              by_cases hneg : L2 u < 0
              · have hrx := HD2.out.relax HG.out hpp2 HLP.out huI (.inl hneg)
                have HNX : Hid (Dj (J.length + 2) O I (fun y => if y = u then (l : Int) + 1 else L2 y) rk (Q3 ++ [kq (l + 1) u]) (fun q => q = p)) := hrx.1
                have HL7 : Hid ((l : Int) + 1 ≤ 7) := hrx.2.1
                have HTK : Hid (L2 u < 0 ∨ (l : Int) + 1 < L2 u) := .inl hneg
                have HKEY : Hid _ := key_or2 l (by omega) u (by omega)
                clear hrx
                go_upto_region 40 with (go_at_call 51; refine Calls.mono (fresh_calls c _ D v w5 J O I L2 B bx u r3.1 (HRL.out L2 Q3 x3') c0 hu2 huM) ?_; rintro e w6 ⟨rfl, m6, rfl⟩)
                have hq3 := r3.drewN m6
                have hbq := below_drewN r1 m6
                have hsq : c.base ≤ (w5.drewN m6).heap.size := r2
                generalize w5.drewN m6 = wq at hq3 hbq hsq ⊢
                clear r1 r2 r3 cu c0 ci t2 cLu
                have t2 : wq.cell? ⟨c.TT, 2, none⟩ = some (.slice (some ⟨gL, 0, none⟩) (J.length + 2) cL) := by rw [← hLv]; exact hq3.1.hTT.cell? 2
                have cLu := hq3.1.sep.cell E7 (rowOf_get L2 huM)
                have fLu := hq3.1.sep.free E7 u
                have s3 := hq3.put u ((l : Int) + 1)
                have s1 : Below c.base w0 (wq.setCell ⟨gL, u, none⟩ (.int .i64 ((l : Int) + 1))) := hbq.setCell (hq3.1.sep.lt E7 gL rfl).1 _
                have s2 : c.base ≤ (wq.setCell ⟨gL, u, none⟩ (.int .i64 ((l : Int) + 1))).heap.size := by simpa using hsq
                go_upto_region 41 with fail
                generalize wq.setCell ⟨gL, u, none⟩ (.int .i64 ((l : Int) + 1)) = wz at s1 s2 s3 ⊢
                go_wp2_with (go_at_call 53; rw [HKEY.out]; refine Calls.mono (heapPush_calls (locG c v bq) _ 1015 (kq (l + 1) u) x3' Q3 wz (KQ_q _ _ _ _ _ _ _) s3 s2 (by have := HM2.out; omega)) ?_; rintro e w8 ⟨rfl, g8, c8, ⟨Q8, hQ8, hg8⟩, hbl8⟩)
                refine ⟨⟨j + 1, by omega, by go_num, _, Q8, ⟨.slice (some ⟨g8, 0, none⟩) (Q3.length + 1) c8, s1.trans hbl8, by have := hbl8.size; omega, ?_⟩, HNX.out.perm hQ8, ?_, ?_, ?_⟩, by simp [intOf]; omega⟩
                · have hl8 : Q8.length = Q3.length + 1 := by have := hQ8.length_eq; simpa using this
                  unfold KQ at hg8 ⊢
                  rw [upd_upd] at hg8
                  rw [hl8]
                  exact hg8
                · show (if p = u then (l : Int) + 1 else L2 p) = _
                  rw [if_neg (Ne.symm hup)]; exact HLP.out
                · intro y hy
                  show 0 ≤ (if y = u then (l : Int) + 1 else L2 y) ∧ (if y = u then (l : Int) + 1 else L2 y) ≤ (l : Int) + 1
                  rcases (take_mem hu).1 hy with hy | hy
                  · have := HPRE.out y hy
                    split
                    · omega
                    · exact this
                  · rw [if_pos hy]; omega
                · have h1 := pots_upd (L := L2) (x := (l : Int) + 1) huM
                  have h2 := pot_less HL7.out HTK.out
                  have h3 := hQ8.length_eq
                  have h4 := HM2.out
                  simp only [List.length_append, List.length_singleton] at h3
                  omega
              · have hneg' : ¬ (L2 u < 0) := hneg
                by_cases hlt : (l : Int) + 1 < L2 u
                · have hrx := HD2.out.relax HG.out hpp2 HLP.out huI (.inr hlt)
                  have HNX : Hid (Dj (J.length + 2) O I (fun y => if y = u then (l : Int) + 1 else L2 y) rk (Q3 ++ [kq (l + 1) u]) (fun q => q = p)) := hrx.1
                  have HL7 : Hid ((l : Int) + 1 ≤ 7) := hrx.2.1
                  have HTK : Hid (L2 u < 0 ∨ (l : Int) + 1 < L2 u) := .inr hlt
                  have HKEY : Hid _ := key_or2 l (by omega) u (by omega)
                  clear hrx
                  go_upto_region 40 with (go_at_call 51; refine Calls.mono (fresh_calls c _ D v w5 J O I L2 B bx u r3.1 (HRL.out L2 Q3 x3') c0 hu2 huM) ?_; rintro e w6 ⟨rfl, m6, rfl⟩)
                  have hq3 := r3.drewN m6
                  have hbq := below_drewN r1 m6
                  have hsq : c.base ≤ (w5.drewN m6).heap.size := r2
                  generalize w5.drewN m6 = wq at hq3 hbq hsq ⊢
                  clear r1 r2 r3 cu c0 ci t2 cLu
                  have t2 : wq.cell? ⟨c.TT, 2, none⟩ = some (.slice (some ⟨gL, 0, none⟩) (J.length + 2) cL) := by rw [← hLv]; exact hq3.1.hTT.cell? 2
                  have cLu := hq3.1.sep.cell E7 (rowOf_get L2 huM)
                  have fLu := hq3.1.sep.free E7 u
                  have s3 := hq3.put u ((l : Int) + 1)
                  have s1 : Below c.base w0 (wq.setCell ⟨gL, u, none⟩ (.int .i64 ((l : Int) + 1))) := hbq.setCell (hq3.1.sep.lt E7 gL rfl).1 _
                  have s2 : c.base ≤ (wq.setCell ⟨gL, u, none⟩ (.int .i64 ((l : Int) + 1))).heap.size := by simpa using hsq
                  go_upto_region 41 with fail
                  generalize wq.setCell ⟨gL, u, none⟩ (.int .i64 ((l : Int) + 1)) = wz at s1 s2 s3 ⊢
                  go_wp2_with (go_at_call 53; rw [HKEY.out]; refine Calls.mono (heapPush_calls (locG c v bq) _ 1015 (kq (l + 1) u) x3' Q3 wz (KQ_q _ _ _ _ _ _ _) s3 s2 (by have := HM2.out; omega)) ?_; rintro e w8 ⟨rfl, g8, c8, ⟨Q8, hQ8, hg8⟩, hbl8⟩)
                  refine ⟨⟨j + 1, by omega, by go_num, _, Q8, ⟨.slice (some ⟨g8, 0, none⟩) (Q3.length + 1) c8, s1.trans hbl8, by have := hbl8.size; omega, ?_⟩, HNX.out.perm hQ8, ?_, ?_, ?_⟩, by simp [intOf]; omega⟩
                  · have hl8 : Q8.length = Q3.length + 1 := by have := hQ8.length_eq; simpa using this
                    unfold KQ at hg8 ⊢
                    rw [upd_upd] at hg8
                    rw [hl8]
                    exact hg8
                  · show (if p = u then (l : Int) + 1 else L2 p) = _
                    rw [if_neg (Ne.symm hup)]; exact HLP.out
                  · intro y hy
                    show 0 ≤ (if y = u then (l : Int) + 1 else L2 y) ∧ (if y = u then (l : Int) + 1 else L2 y) ≤ (l : Int) + 1
                    rcases (take_mem hu).1 hy with hy | hy
                    · have := HPRE.out y hy
                      split
                      · omega
                      · exact this
                    · rw [if_pos hy]; omega
                  · have h1 := pots_upd (L := L2) (x := (l : Int) + 1) huM
                    have h2 := pot_less HL7.out HTK.out
                    have h3 := hQ8.length_eq
                    have h4 := HM2.out
                    simp only [List.length_append, List.length_singleton] at h3
                    omega
                · have hlt' : ¬ ((l : Int) + 1 < L2 u) := hlt
                  go_wp2_with (go_at_call 51; refine Calls.mono (fresh_calls c _ D v w5 J O I L2 B bx u r3.1 (HRL.out L2 Q3 x3') c0 hu2 huM) ?_; rintro e w6 ⟨rfl, m6, rfl⟩)
                  refine ⟨⟨j + 1, by omega, by go_num, L2, Q3, ⟨x3', below_drewN r1 m6, r2, r3.drewN m6⟩, HD2.out, HLP.out, ?_, HM2.out⟩, by simp [intOf]; omega⟩
                  intro y hy
                  rcases (take_mem hu).1 hy with hy | hy
                  · exact HPRE.out y hy
                  · rw [hy]; omega
            · have hjl' : ¬ ((j : Int) < ((I p).length : Int)) := by omega
              obtain rfl : j = (I p).length := by omega
              rw [List.take_length] at hpre
              have hcl := hD2.close (fun u hu => by rw [hLp]; exact hpre u hu)
              have HCL : Hid (Dj (J.length + 2) O I L2 rk Q3 (fun _ => False)) := hcl
              have HM2 : Hid (2 * pots L2 (J.length + 2) + Q3.length ≤ 2 * pots L1 (J.length + 2) + n) := hm2
              clear hD2 hpre hcl hm2
              go_wp2_with fail
              exact ⟨⟨L2, Q3, ⟨x3', r1, r2, r3⟩, HCL.out, by have := HM2.out; omega⟩, by rw [r3.meas, HMS.out]; have := HM2.out; omega⟩
        · have hne' : (L1 p != (l : Int)) = true := by rw [bne_iff_ne]; exact heq
          go_wp2_with fail
          exact ⟨⟨L1, Q2, ⟨_, hbl2', hsz2, hg2'⟩, HDS.out.stale HG.out hppM heq, by omega⟩, by rw [hg2'.meas, HMS.out]; omega⟩
end Go.Proofs.Ybulkuoc
