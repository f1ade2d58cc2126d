/- LawS1055BCommit: the commit of a draft. -/
import Derived.Test.YbulkuvcLawD
namespace Go.Proofs.Ybulkuvc
open Go.RowKit Go.Maps Go.WideMaps

set_option maxRecDepth 100000 in
set_option maxHeartbeats 2000000 in
theorem phD_in (n N : Nat) (ed : Int) (v : Value) (m : Ents) (gs : List (List Nat)) (st : List (Option Nat)) (w0 w : World) {x0 x1 x2 x3 x4 x5 x6 x7 x8 x15 x16 x17 x18 x19 x20 x21 x22 x23 x24 x25 x26 x27 x28 x29 x30 x31 x32 x33 x34 x35 x36 x37 x38 x39 x40 x41 x42 x43 x44 x45 x46 x47 x48 x49 x50 x51 x52 x53 x54 x55 x56 x57 x58 x59 x60 x61 x62 x63 x64 x65 x66 x67 x68 x69 x70 x71 x72 x73 x74 x75 x76 x77 x78 x79 x80 x81 x82 x83 x84 x85 x86 x87 x88 x89 x90 x91 x92 x93 x94 x95 x96 x97 x98 x99 x100 x101 x102 x103 x104 x105 x106 x107 x108 x109 x110 x111 x112 x113 x114 x115 x116 x117 x118 x119 x120 x121 x122 x123 x124 x125 x126 x127 x128 x129 x130 x131 x132 x133 x134 x135 x136 x137 x138 x139 x140 x141 x142 x143 x144 x145 x146 x147 x148 x149 x150 x151 x152 x153 x154 x155 x156 x157 x158 x159 x160 x161 x162 x163 x164 x165 x166 x167 x168 x169 x170 x171 x172 x173 x174 x175 x176 x177 x178 x179 x180 x181 x182 x183 x184 x185 x186 x187 x188 x189 x190 x191 x192 x193 x194 x195 x196 x197 x198 x199 x200 x201 x202 x203 x204 x205 x206 x207 x208 x209 x210 x211 x212 x213 x214 x215 x216 x217 x218 x219 x220 x221 x222 x223 x224 x225 x226 x227 x228 x229 x230 x231 x232 x233 x234 x235 x236 x237 x238 x239 x240 x241 x242 x243 x244 x245 x246 x247 x248 x249 x250 x251 x252 x253 x254 x255 x256 x257 x258 x259 x260 x261 x262 x263 x264 x265 x266 x267 x268 x269 x270 x271 x272 x273 x274 x275 x276 x277 x278 x279 x280 x281 x282 x283 x284 x285 x286 x287 x288 x289 x290 x291 x292 x293 x294 x295 x296 x297 x298 x299 x300 x301 x302 x303 x304 x305 x306 x307 x308 x309 x310 x311 x312 x313 x314 x315 x316 x317 x318 x319 x320 x321 x322 x323 x324 x325 x326 x327 x328 x329 x330 x331 x332 x333 x334 x335 x336 x337 x338 x339 x340 x341 x342 x343 x344 x345 x346 x347 : Value} (hn : w0.heap.size = n) (hs : Set w0 w n st (cnt gs)) (hd : Drf w n ed v m gs) (hst4 : st.length = 4) (hlk : ∀ k b, st[k]? = some (some b) → look m (tk k) = some (.pointer (some ⟨b, 0, none⟩))) (hm4 : m.length ≤ 4) (hg64 : gs.length ≤ 64) (hN : m.length = N) (hed : ed ≤ 1024) :
    Code.wp Yba.prog (dropSeq 10 (Yba.f3.body.getD .skip)) (bodyPost Yba.prog Yba.f3 (fun e w' => e = .returned (.bool true) ∧ Below w0.heap.size w0 w')) ⟨#[x0, x1, x2, x3, x4, x5, x6, x7, x8, .pointer (some ⟨n + 7, 0, none⟩), .pointer (some ⟨n + 4, 0, none⟩), .pointer (some ⟨n + 8, 0, none⟩), .pointer (some ⟨n + 9, 0, none⟩), .int .i64 (N : Nat), .pointer (some ⟨n + 14, 0, none⟩), x15, x16, x17, x18, x19, x20, x21, x22, x23, x24, x25, x26, x27, x28, x29, x30, x31, x32, x33, x34, x35, x36, x37, x38, x39, x40, x41, x42, x43, x44, x45, x46, x47, x48, x49, x50, x51, x52, x53, x54, x55, x56, x57, x58, x59, x60, x61, x62, x63, x64, x65, x66, x67, x68, x69, x70, x71, x72, x73, x74, x75, x76, x77, x78, x79, x80, x81, x82, x83, x84, x85, x86, x87, x88, x89, x90, x91, x92, x93, x94, x95, x96, x97, x98, x99, x100, x101, x102, x103, x104, x105, x106, x107, x108, x109, x110, x111, x112, x113, x114, x115, x116, x117, x118, x119, x120, x121, x122, x123, x124, x125, x126, x127, x128, x129, x130, x131, x132, x133, x134, x135, x136, x137, x138, x139, x140, x141, x142, x143, x144, x145, x146, x147, x148, x149, x150, x151, x152, x153, x154, x155, x156, x157, x158, x159, x160, x161, x162, x163, x164, x165, x166, x167, x168, x169, x170, x171, x172, x173, x174, x175, x176, x177, x178, x179, x180, x181, x182, x183, x184, x185, x186, x187, x188, x189, x190, x191, x192, x193, x194, x195, x196, x197, x198, x199, x200, x201, x202, x203, x204, x205, x206, x207, x208, x209, x210, x211, x212, x213, x214, x215, x216, x217, x218, x219, x220, x221, x222, x223, x224, x225, x226, x227, x228, x229, x230, x231, x232, x233, x234, x235, x236, x237, x238, x239, x240, x241, x242, x243, x244, x245, x246, x247, x248, x249, x250, x251, x252, x253, x254, x255, x256, x257, x258, x259, x260, x261, x262, x263, x264, x265, x266, x267, x268, x269, x270, x271, x272, x273, x274, x275, x276, x277, x278, x279, x280, x281, x282, x283, x284, x285, x286, x287, x288, x289, x290, x291, x292, x293, x294, x295, x296, x297, x298, x299, x300, x301, x302, x303, x304, x305, x306, x307, x308, x309, x310, x311, x312, x313, x314, x315, x316, x317, x318, x319, x320, x321, x322, x323, x324, x325, x326, x327, x328, x329, x330, x331, x332, x333, x334, x335, x336, x337, x338, x339, x340, x341, x342, x343, x344, x345, x346, x347], []⟩ w := by
  subst hN
  have HL := show Hid _ from hlk
  clear hlk
  have hsz := hs.hex.lt
  have hDl := Blk.lt hd.hD
  have hW : ∃ W, W = ((((((w.alloc (.cells #[.slice none 0 0] 70)).alloc (.cells #[.int .i64 (-1)] 3)).alloc (.cells #[.int .i64 (-1)] 3)).alloc (.cells #[.int .i64 (-1)] 3)).alloc (.cells #[.pointer none] 44)).alloc (.cells #[.pointer (some ⟨n + 14, 0, none⟩), .func (.func 8) #[] #[.pointer (some ⟨w.heap.size, 0, none⟩), .pointer (some ⟨n + 7, 0, none⟩), .pointer (some ⟨w.heap.size + 1 + 1 + 1 + 1, 0, none⟩), .pointer (some ⟨w.heap.size + 1, 0, none⟩), .pointer (some ⟨w.heap.size + 1 + 1, 0, none⟩)], .func (.func 9) #[] #[.pointer (some ⟨w.heap.size, 0, none⟩), .pointer (some ⟨n + 7, 0, none⟩), .pointer (some ⟨w.heap.size + 1 + 1 + 1, 0, none⟩)]] 74)) := ⟨_, rfl⟩
  obtain ⟨wp, hwp⟩ := hW
  have hV : Vars wp (n + 6) w.heap.size (n + 7) (w.heap.size + 1 + 1 + 1 + 1) (w.heap.size + 1) (w.heap.size + 1 + 1) (w.heap.size + 1 + 1 + 1) := by
    rw [hwp]
    refine ⟨?_, ?_, ?_, ?_, ?_, ?_, by omega, by omega, by omega⟩
    · exact (((((Blk.newAt _ _ _ rfl).alloc _).alloc _).alloc _).alloc _).alloc _
    · exact (((((hs.hsv.alloc _).alloc _).alloc _).alloc _).alloc _).alloc _
    · exact (Blk.newAt _ _ _ (by simp)).alloc _
    · exact ((((Blk.newAt _ _ _ (by simp)).alloc _).alloc _).alloc _).alloc _
    · exact (((Blk.newAt _ _ _ (by simp)).alloc _).alloc _).alloc _
    · exact ((Blk.newAt _ _ _ (by simp)).alloc _).alloc _
  have hFP : Fr w wp (fun _ => False) := by rw [hwp]; exact ((((((Fr.refl w _).alloc _).alloc _).alloc _).alloc _).alloc _).alloc _
  have hpl : Blk wp (w.heap.size + 1 + 1 + 1 + 1 + 1) #[.pointer (some ⟨n + 14, 0, none⟩), .func (.func 8) #[] #[.pointer (some ⟨w.heap.size, 0, none⟩), .pointer (some ⟨n + 7, 0, none⟩), .pointer (some ⟨w.heap.size + 1 + 1 + 1 + 1, 0, none⟩), .pointer (some ⟨w.heap.size + 1, 0, none⟩), .pointer (some ⟨w.heap.size + 1 + 1, 0, none⟩)], .func (.func 9) #[] #[.pointer (some ⟨w.heap.size, 0, none⟩), .pointer (some ⟨n + 7, 0, none⟩), .pointer (some ⟨w.heap.size + 1 + 1 + 1, 0, none⟩)]] 74 := by rw [hwp]; exact Blk.newAt _ _ _ (by simp)
  have c0 : wp.cell? ⟨n + 7, 0, none⟩ = some (.pointer (some ⟨n + 6, 0, none⟩)) := (hs.hsv.keep hFP id).cell? 0
  conv => arg 2; whnf
  go_upto_region 61 with (refine wpList_store_run rfl (.tmp 31) (.tmp 195) rfl rfl rfl (store_plan _ _ _ _ _ _ _ rfl rfl rfl _ (by simp)) ?_; go_frame)
  rw [← hwp]
  clear hwp
  generalize w.heap.size = h at *
  have p0 := hpl.cell? 0
  have p1 := hpl.cell? 1
  have p2 := hpl.cell? 2
  go_cut [198] from 196 to 198 (fun _ wc => ∃ m' : Ents, m'.Perm m ∧ FE w0 wc (n + 7) (n + 6) (n + 4) (n + 5) (n + 8) (n + 9) (h + 1 + 1 + 1) n (n + 1) (n + 2) (n + 3) m' gs st ∧ Done wc (n + 6) (n + 4) (n + 5) n (h) (h + 1 + 1 + 1 + 1) (h + 1) (h + 1 + 1) (h + 1 + 1 + 1) m.length (nks gs) ∧ wc.cell? ⟨n + 14, 5, none⟩ = some (.int .i64 ed))
  case rest =>
    obtain ⟨m', q0, q1, q2, q3⟩ := hcut
    rename_i hk
    apply hk
    exact phE1_in (n + 7) (n + 6) (n + 4) (n + 5) (n + 8) (n + 9) n (h) (h + 1 + 1 + 1 + 1) (h + 1) (h + 1 + 1) (h + 1 + 1 + 1) n (n + 1) (n + 2) (n + 3) m.length m' gs st w0 wc q1 hst4 (fun k b hb => look_perm q0 hd.p1.nd (HL.out k b hb)) q2 q0.length_eq (n + 14) ed q3 hed
  case first =>
  have hbp : Below w0.heap.size w0 wp := hs.bel.trans (hFP.below hs.bel.size (fun _ e => e.elim))
  have hbn : n ≤ wp.heap.size := by have := hbp.size; omega
  have hDp : Dra wp (n + 14) (n + 6) (n + 10) (n + 11) (n + 12) (n + 13) ed v := Blk.keep hd.hD hFP id
  have u1 := commit_in (n + 14) (n + 6) (n + 4) (n + 5) n (n + 1) (n + 2) (n + 3) (n + 10) (n + 11) (n + 12) (n + 13) n n (h) (n + 7) (h + 1 + 1 + 1 + 1) (h + 1) (h + 1 + 1) (h + 1 + 1 + 1) ed v m gs wp (Blk.keep hs.sto hFP id) (Blk.keep hs.tab hFP id) (hs.m1.keep hFP id) (hs.m5.keep hFP id) (hs.m2.keep hFP id) hDp (hd.p0.keep hFP id) (hd.p2.keep hFP id) (hd.p3.keep hFP id) (hd.p1.keep hFP id) hm4 (hd.now.keep hFP (fun _ _ _ _ _ h => h)) hg64 hed (by omega) (by omega) (by omega) (by omega) (by omega) hV hbn
  go_wp2_with fail
  refine Calls.mono u1 ?_
  rintro e w' ⟨rfl, hdone, ⟨m', hpm, hm'⟩, hG', hfr⟩
  go_wp2_with fail
  go_meet
  have hno : ∀ k, k < h → k ≠ n + 6 → k ≠ n + 1 → k ≠ n + 5 → ¬ theSet (n + 6) (h) (h + 1 + 1 + 1 + 1) (h + 1) (h + 1 + 1) (h + 1 + 1 + 1) (n + 1) (n + 5) k := fun k h1 h2 h3 h4 => nor h2 (nor (by omega) (nor (by omega) (nor (by omega) (nor (by omega) (nor (by omega) (nor h3 h4))))))
  have hbel : Below w0.heap.size w0 w' := hbp.trans (hfr.below hbp.size (fun k e => by have := hbp.size; rcases e with e | e | e | e | e | e | e | e <;> omega))
  have hTo : Tab w' (n + 4) n (n + 1) (n + 2) (n + 3) := (Blk.keep hs.tab hFP id).keep hfr (hno _ (by omega) (by omega) (by omega) (by omega))
  have hDc : w'.cell? ⟨n + 14, 5, none⟩ = some (.int .i64 ed) := Blk.cell? (Blk.keep hDp hfr (hno _ (by omega) (by omega) (by omega) (by omega))) 5
  exact ⟨m', hpm, ⟨hbel, hdone.sto, hTo, (hs.hsv.keep hFP id).keep hfr (hno _ (by omega) (by omega) (by omega) (by omega)), hm', hG', (hs.hst.keep hFP id).keep hfr (hno _ (by omega) (by omega) (by omega) (by omega)), (hs.hex.keep hFP id).keep hfr (hno _ (by omega) (by omega) (by omega) (by omega)), hdone.hav⟩, hdone, hDc⟩
end Go.Proofs.Ybulkuvc
