/- LawS1055BCommit: one role. -/
import Derived.Test.YbulkuvcLawD
namespace Go.Proofs.Ybulkuvc
open Go.RowKit Go.Maps Go.WideMaps

def hd : Code → Code
  | .seq a _ => a
  | c => c
def thn : Code → Code
  | .cond _ a _ => a
  | c => c
def blk : Code → Code
  | .block _ c => c
  | c => c
def lop : Code → Code
  | .loop c => c
  | c => c

def rk (n : Nat) : ByteArray := ⟨#[114, (48 + n).toUInt8]⟩
theorem rk_size (n : Nat) : (rk n).size ≤ maxLen := by show 2 ≤ maxLen; decide
theorem sub_rk0 (w : World) : (Instr.sliceAt 9 (.string ⟨#[48, 49, 50, 51, 52, 53, 54, 55]⟩) (some (.int .i64 ((0 : Nat) : Int))) (some (.int .i64 (((0 : Nat) : Int) + 1))) none).run Yba.prog w = .ok (.string (dk 0)) w := by kernel_rfl
theorem sub_rk1 (w : World) : (Instr.sliceAt 9 (.string ⟨#[48, 49, 50, 51, 52, 53, 54, 55]⟩) (some (.int .i64 ((1 : Nat) : Int))) (some (.int .i64 (((1 : Nat) : Int) + 1))) none).run Yba.prog w = .ok (.string (dk 1)) w := by kernel_rfl
theorem sub_rk2 (w : World) : (Instr.sliceAt 9 (.string ⟨#[48, 49, 50, 51, 52, 53, 54, 55]⟩) (some (.int .i64 ((2 : Nat) : Int))) (some (.int .i64 (((2 : Nat) : Int) + 1))) none).run Yba.prog w = .ok (.string (dk 2)) w := by kernel_rfl
theorem sub_rk3 (w : World) : (Instr.sliceAt 9 (.string ⟨#[48, 49, 50, 51, 52, 53, 54, 55]⟩) (some (.int .i64 ((3 : Nat) : Int))) (some (.int .i64 (((3 : Nat) : Int) + 1))) none).run Yba.prog w = .ok (.string (dk 3)) w := by kernel_rfl
theorem sub_rk4 (w : World) : (Instr.sliceAt 9 (.string ⟨#[48, 49, 50, 51, 52, 53, 54, 55]⟩) (some (.int .i64 ((4 : Nat) : Int))) (some (.int .i64 (((4 : Nat) : Int) + 1))) none).run Yba.prog w = .ok (.string (dk 4)) w := by kernel_rfl
theorem sub_rk5 (w : World) : (Instr.sliceAt 9 (.string ⟨#[48, 49, 50, 51, 52, 53, 54, 55]⟩) (some (.int .i64 ((5 : Nat) : Int))) (some (.int .i64 (((5 : Nat) : Int) + 1))) none).run Yba.prog w = .ok (.string (dk 5)) w := by kernel_rfl
theorem sub_rk6 (w : World) : (Instr.sliceAt 9 (.string ⟨#[48, 49, 50, 51, 52, 53, 54, 55]⟩) (some (.int .i64 ((6 : Nat) : Int))) (some (.int .i64 (((6 : Nat) : Int) + 1))) none).run Yba.prog w = .ok (.string (dk 6)) w := by kernel_rfl
theorem sub_rk7 (w : World) : (Instr.sliceAt 9 (.string ⟨#[48, 49, 50, 51, 52, 53, 54, 55]⟩) (some (.int .i64 ((7 : Nat) : Int))) (some (.int .i64 (((7 : Nat) : Int) + 1))) none).run Yba.prog w = .ok (.string (dk 7)) w := by kernel_rfl
theorem sub_rk {n : Nat} (h : n < 8) (w : World) : (Instr.sliceAt 9 (.string ⟨#[48, 49, 50, 51, 52, 53, 54, 55]⟩) (some (.int .i64 (n : Int))) (some (.int .i64 ((n : Int) + 1))) none).run Yba.prog w = .ok (.string (dk n)) w := by
  have h1 : n = 0 ∨ n = 1 ∨ n = 2 ∨ n = 3 ∨ n = 4 ∨ n = 5 ∨ n = 6 ∨ n = 7 := by omega
  rcases h1 with rfl | rfl | rfl | rfl | rfl | rfl | rfl | rfl
  · exact sub_rk0 w
  · exact sub_rk1 w
  · exact sub_rk2 w
  · exact sub_rk3 w
  · exact sub_rk4 w
  · exact sub_rk5 w
  · exact sub_rk6 w
  · exact sub_rk7 w
theorem cat_rk (n : Nat) (w : World) : (Op.stringOp .add ⟨#[114]⟩ (dk n)).run Yba.prog w = .ok (.string (rk n)) w := by kernel_rfl
attribute [local go_sem] cat_rk
theorem build58 (s : ByteArray) (w : World) : (Instr.build 58 #[(0, .string s)]).run Yba.prog w = .ok (.agg #[.string s, .string ⟨#[]⟩]) w := run_build w 58 _ _ (by kernel_rfl)
theorem info58 : (Yba.prog.info? 58).map (fun i => (i.zero, i.size, i.bytes)) = some (some (.agg #[.string ⟨#[]⟩, .string ⟨#[]⟩]), 2, 32) := by kernel_rfl

def hasv (ks : List Nat) : Array Value := #[.bool (decide (0 ∈ ks)), .bool (decide (1 ∈ ks)), .bool (decide (2 ∈ ks)), .bool (decide (3 ∈ ks))]
theorem hasv_get (ks : List Nat) {n : Nat} (h : n < 4) : (hasv ks)[n]? = some (.bool (decide (n ∈ ks))) := by
  have h1 : n = 0 ∨ n = 1 ∨ n = 2 ∨ n = 3 := by omega
  rcases h1 with rfl | rfl | rfl | rfl <;> rfl
theorem hasv_set (ks : List Nat) {n : Nat} (h : n < 4) : (hasv ks).setIfInBounds n (.bool true) = hasv (ks ++ [n]) := by
  have h1 : n = 0 ∨ n = 1 ∨ n = 2 ∨ n = 3 := by omega
  rcases h1 with rfl | rfl | rfl | rfl <;> simp [hasv]
theorem exv_set (c : Nat → Nat) {n : Nat} (h : n < 4) (x : Nat) : (exv c).setIfInBounds n (.int .i64 (x : Nat)) = exv (fun i => if i = n then x else c i) := by
  have h1 : n = 0 ∨ n = 1 ∨ n = 2 ∨ n = 3 := by omega
  rcases h1 with rfl | rfl | rfl | rfl <;> simp [exv]
theorem exv_congr {c d : Nat → Nat} (h : ∀ i, i < 4 → c i = d i) : exv c = exv d := by
  simp [exv, h 0 (by omega), h 1 (by omega), h 2 (by omega), h 3 (by omega)]

def flat (ks : List Nat) : List Value := ks.flatMap (fun k => [.string (nk k), .string ⟨#[]⟩])
theorem flat_snoc (ks : List Nat) (k : Nat) : flat (ks ++ [k]) = flat ks ++ [.string (nk k), .string ⟨#[]⟩] := by simp [flat]
theorem flat_length (ks : List Nat) : (flat ks).length = ks.length * 2 := by
  induction ks with
  | nil => rfl
  | cons k ks ih => simp only [flat, List.flatMap_cons, List.length_append, List.length_cons, List.length_nil] at ih ⊢; omega
theorem flat_get (ks : List Nat) : ∀ j (h : j < ks.length), (flat ks)[j * 2]? = some (.string (nk ks[j])) ∧ (flat ks)[j * 2 + 1]? = some (.string ⟨#[]⟩) := by
  induction ks with
  | nil => intro j h; simp at h
  | cons k ks ih =>
    intro j h
    have e : flat (k :: ks) = .string (nk k) :: .string ⟨#[]⟩ :: flat ks := by simp [flat]
    rw [e]
    cases j with
    | zero => exact ⟨rfl, rfl⟩
    | succ j =>
      have := ih j (by simpa using h)
      rw [show (j + 1) * 2 = j * 2 + 1 + 1 by omega]
      simpa using this
theorem Gr.ofRow {w : World} {base g p cap : Nat} {ks : List Nat} (h : w.ownsRow base 58 2 (.slice (some ⟨g, 0, none⟩) p cap) p (flat ks)) (hl : ks.length = p) (h4 : ∀ k ∈ ks, k < 4) (hp : p ≤ 256) : Gr w (.slice (some ⟨g, 0, none⟩) p cap) ks := by
  subst hl
  rcases h.2 with ⟨e, _⟩ | ⟨g', cap', cur, e, hb, hg, h1, h2, h3, h5⟩
  · cases e
  · cases e
    refine ⟨⟨g, cap, cur, rfl, hg, ?_⟩, h4, hp⟩
    intro j hj
    have q : ∀ i, i < ks.length * 2 → cur[i]? = (flat ks)[i]? := by
      intro i hi
      rw [← h5, List.getElem?_take, if_pos hi]
      simp
    rw [q _ (by omega), q _ (by omega)]
    exact flat_get ks j hj

theorem two_new (w : World) (x y : Value) (t : TypeId) (k : Nat) (e : k = w.heap.size) : ∀ (j : Nat) (u : Value), [x, y][j]? = some u → (w.alloc (.cells #[x, y] t)).cell? ((⟨k, 0, none⟩ : Addr).add j) = some u := by
  intro j u hj
  subst e
  have hb := Blk.new w #[x, y] t
  rw [show ((⟨w.heap.size, 0, none⟩ : Addr).add j) = ⟨w.heap.size, 0 + j, none⟩ from by simp [Addr.add]; exact fun h => h.symm, Nat.zero_add, hb.cell?]
  match j, hj with
  | 0, hj => exact hj
  | 1, hj => exact hj
  | j + 2, hj => simp at hj

set_option maxRecDepth 100000 in
set_option maxHeartbeats 3200000 in
theorem phR (b off len cap i j b2 off2 rl rc gl gc n E T rm um : Nat) (ga : Option Addr) (s : ByteArray) (G : List (List Nat)) (M : Ents) (w0 w : World) (Q : Exit → Act → World → Prop) {x1 x2 x3 x4 x5 x6 x7 x8 x9 x10 x11 x13 x14 x16 x18 x20 x21 x22 x23 x24 x25 x26 x27 x28 x29 x30 x31 x32 x33 x34 x35 x36 x37 x38 x39 x40 x41 x42 x43 x44 x45 x46 x47 x48 x49 x50 x51 x52 x53 x54 x55 x56 x57 x58 x59 x60 x61 x62 x63 x64 x65 x66 x67 x68 x69 x70 x71 x72 x73 x74 x75 x76 x77 x78 x79 x80 x81 x82 x83 x84 x85 x86 x87 x88 x89 x90 x91 x92 x93 x94 x95 x96 x97 x98 x99 x100 x101 x102 x103 x104 x105 x106 x107 x108 x109 x110 x111 x112 x113 x114 x115 x116 x117 x118 x119 x120 x121 x122 x123 x124 x125 x126 x127 x128 x129 x130 x131 x132 x133 x134 x135 x136 x137 x138 x139 x140 x141 x142 x143 x144 x145 x146 x147 x148 x149 x150 x151 x152 x153 x154 x155 x156 x157 x158 x159 x160 x161 x162 x163 x164 x165 x166 x167 x168 x169 x170 x171 x172 x173 x174 x175 x176 x177 x178 x179 x180 x181 x182 x183 x184 x185 x186 x187 x188 x189 x190 x191 x192 x193 x194 x195 x196 x197 x198 x199 x200 x201 x202 x203 x204 x205 x206 x207 x208 x209 x210 x211 x212 x213 x214 x215 x216 x217 x218 x219 x220 x221 x222 x223 x224 x225 x226 x227 x228 x229 x230 x231 x232 x233 x234 x235 x236 x237 x238 x239 x240 x241 x242 x243 x244 x245 x246 x247 x248 x249 x250 x251 x252 x253 x254 x255 x256 x257 x258 x259 x260 x261 x262 x263 x264 x265 x266 x267 x268 x269 x270 x271 x272 x273 x274 x275 x276 x277 x278 x279 x280 x281 x282 x283 x284 x285 x286 x287 x288 x289 x290 x291 x292 x293 x294 x295 x296 x297 x298 x299 x300 x301 x302 x303 x304 x305 x306 x307 x308 x309 x310 x311 x312 x313 x314 x315 x316 x317 x318 x319 x320 x321 x322 x323 x324 x325 x326 x327 x328 x329 x330 x331 x332 x333 x334 x335 x336 x337 x338 x339 x340 x341 x342 x343 x344 x345 x346 x347 : Value}
    (hn : w0.heap.size = n) (hbel : Below w0.heap.size w0 w) (hil : i < len) (hjl : j < rl) (hj8 : j < 8) (hgl : gl ≤ 256) (hby : BytesIn w0 ga gl)
    (ci : w.cell? ⟨b, off + i * 2 + 1, none⟩ = some (.slice (some ⟨b2, off2, none⟩) rl rc)) (cj : w.cell? ⟨b2, off2 + j, none⟩ = some (.slice ga gl gc)) (hbl : b < w0.heap.size) (hbl2 : b2 < w0.heap.size)
    (hE : Blk w E (exv (cnt G)) 50) (hEn : n ≤ E) (hG : G.length ≤ 64) (hT : Blk w T #[.string s, .map (some rm), .map (some um)] 62) (hrm : Mp w rm M) (hM : look M (rk j) = none) (hM8 : M.length ≤ 8)
    (hQ : ∀ (w' : World) {y20 y21 y23 y24 y25 y113 y114 y115 y116 y117 y118 y119 y120 y121 y122 y123 y124 y125 y126 y127 y128 y129 y130 y131 y132 y133 y134 y135 y136 y137 y138 y139 y140 y141 y142 y143 y144 y145 y146 y147 y148 y149 y150 y151 y152 y153 y154 y155 y156 y157 y158 y159 y160 y161 y162 y163 y164 y165 y166 y167 y168 y169 y170 y171 : Value}, (∃ ks u, Gr w' u ks ∧ Blk w' E (exv (cnt (G ++ [ks]))) 50 ∧ Mp w' rm (M ++ [(rk j, u)])) → Fr w w' (fun k => k = E ∨ k = rm) → Q .normal ⟨#[.slice (some ⟨b, off, none⟩) len cap, x1, x2, x3, x4, x5, x6, x7, x8, x9, x10, x11, .pointer (some ⟨E, 0, none⟩), x13, x14, .int .i64 (i : Nat), x16, .pointer (some ⟨T, 0, none⟩), x18, .int .i64 (j : Nat), y20, y21, x22, y23, y24, y25, x26, x27, x28, x29, x30, x31, x32, x33, x34, x35, x36, x37, x38, x39, x40, x41, x42, x43, x44, x45, x46, x47, x48, x49, x50, x51, x52, x53, x54, x55, x56, x57, x58, x59, x60, x61, x62, x63, x64, x65, x66, x67, x68, x69, x70, x71, x72, x73, x74, x75, x76, x77, x78, x79, x80, x81, x82, x83, x84, x85, x86, x87, x88, x89, x90, x91, x92, x93, x94, x95, x96, x97, x98, x99, x100, x101, x102, x103, x104, x105, x106, x107, x108, x109, x110, x111, x112, y113, y114, y115, y116, y117, y118, y119, y120, y121, y122, y123, y124, y125, y126, y127, y128, y129, y130, y131, y132, y133, y134, y135, y136, y137, y138, y139, y140, y141, y142, y143, y144, y145, y146, y147, y148, y149, y150, y151, y152, y153, y154, y155, y156, y157, y158, y159, y160, y161, y162, y163, y164, y165, y166, y167, y168, y169, y170, y171, x172, x173, x174, x175, x176, x177, x178, x179, x180, x181, x182, x183, x184, x185, x186, x187, x188, x189, x190, x191, x192, x193, x194, x195, x196, x197, x198, x199, x200, x201, x202, x203, x204, x205, x206, x207, x208, x209, x210, x211, x212, x213, x214, x215, x216, x217, x218, x219, x220, x221, x222, x223, x224, x225, x226, x227, x228, x229, x230, x231, x232, x233, x234, x235, x236, x237, x238, x239, x240, x241, x242, x243, x244, x245, x246, x247, x248, x249, x250, x251, x252, x253, x254, x255, x256, x257, x258, x259, x260, x261, x262, x263, x264, x265, x266, x267, x268, x269, x270, x271, x272, x273, x274, x275, x276, x277, x278, x279, x280, x281, x282, x283, x284, x285, x286, x287, x288, x289, x290, x291, x292, x293, x294, x295, x296, x297, x298, x299, x300, x301, x302, x303, x304, x305, x306, x307, x308, x309, x310, x311, x312, x313, x314, x315, x316, x317, x318, x319, x320, x321, x322, x323, x324, x325, x326, x327, x328, x329, x330, x331, x332, x333, x334, x335, x336, x337, x338, x339, x340, x341, x342, x343, x344, x345, x346, x347], []⟩ w') :
    Code.wp Yba.prog (hd (dropSeq 1 (lop (blk (dropSeq 1 (hd (dropSeq 6 (blk (hd (dropSeq 2 (lop (blk (dropSeq 1 (hd (dropSeq 1 (thn (dropSeq 1 (hd (dropSeq 9 (Yba.f3.body.getD .skip)))))))))))))))))))) Q ⟨#[.slice (some ⟨b, off, none⟩) len cap, x1, x2, x3, x4, x5, x6, x7, x8, x9, x10, x11, .pointer (some ⟨E, 0, none⟩), x13, x14, .int .i64 (i : Nat), x16, .pointer (some ⟨T, 0, none⟩), x18, .int .i64 (j : Nat), x20, x21, x22, x23, x24, x25, x26, x27, x28, x29, x30, x31, x32, x33, x34, x35, x36, x37, x38, x39, x40, x41, x42, x43, x44, x45, x46, x47, x48, x49, x50, x51, x52, x53, x54, x55, x56, x57, x58, x59, x60, x61, x62, x63, x64, x65, x66, x67, x68, x69, x70, x71, x72, x73, x74, x75, x76, x77, x78, x79, x80, x81, x82, x83, x84, x85, x86, x87, x88, x89, x90, x91, x92, x93, x94, x95, x96, x97, x98, x99, x100, x101, x102, x103, x104, x105, x106, x107, x108, x109, x110, x111, x112, x113, x114, x115, x116, x117, x118, x119, x120, x121, x122, x123, x124, x125, x126, x127, x128, x129, x130, x131, x132, x133, x134, x135, x136, x137, x138, x139, x140, x141, x142, x143, x144, x145, x146, x147, x148, x149, x150, x151, x152, x153, x154, x155, x156, x157, x158, x159, x160, x161, x162, x163, x164, x165, x166, x167, x168, x169, x170, x171, x172, x173, x174, x175, x176, x177, x178, x179, x180, x181, x182, x183, x184, x185, x186, x187, x188, x189, x190, x191, x192, x193, x194, x195, x196, x197, x198, x199, x200, x201, x202, x203, x204, x205, x206, x207, x208, x209, x210, x211, x212, x213, x214, x215, x216, x217, x218, x219, x220, x221, x222, x223, x224, x225, x226, x227, x228, x229, x230, x231, x232, x233, x234, x235, x236, x237, x238, x239, x240, x241, x242, x243, x244, x245, x246, x247, x248, x249, x250, x251, x252, x253, x254, x255, x256, x257, x258, x259, x260, x261, x262, x263, x264, x265, x266, x267, x268, x269, x270, x271, x272, x273, x274, x275, x276, x277, x278, x279, x280, x281, x282, x283, x284, x285, x286, x287, x288, x289, x290, x291, x292, x293, x294, x295, x296, x297, x298, x299, x300, x301, x302, x303, x304, x305, x306, x307, x308, x309, x310, x311, x312, x313, x314, x315, x316, x317, x318, x319, x320, x321, x322, x323, x324, x325, x326, x327, x328, x329, x330, x331, x332, x333, x334, x335, x336, x337, x338, x339, x340, x341, x342, x343, x344, x345, x346, x347], []⟩ w := by
  have HQ := show Hid _ from hQ
  have HBY : Hid (BytesIn w0 ga gl) := hby
  clear hQ hby
  obtain ⟨i58, hi, hz0, hz1, hz2⟩ := info_parts info58
  have hmk : ∀ w, (Instr.makeSlice 55 (.int .i64 0) (.int .i64 (gl : Int))).run Yba.prog w = .ok (.slice (some ⟨w.heap.size, 0, none⟩) 0 gl) (w.alloc (.cells (madeCells #[.string ⟨#[]⟩, .string ⟨#[]⟩] (gl * 2)) 58)) := by
    intro w
    have h := run_make (P := Yba.prog) w 55 58 i58 _ Yba.underlying55 hi hz0 .i64 .i64 0 (gl : Int) (by omega) (by omega) (by rw [hz2]; omega) (by omega)
    rw [hz1] at h
    simpa [Value.cells] using h
  have hil' : (i : Int) < (len : Int) := by omega
  have hjl' : (j : Int) < (rl : Int) := by omega
  have hbd := build58
  have hbw : b < w.heap.size := Nat.lt_of_lt_of_le hbl hbel.size
  have hbw2 : b2 < w.heap.size := Nat.lt_of_lt_of_le hbl2 hbel.size
  conv => arg 2; whnf
  go_wp2_with fail
  have hEl := hE.lt
  have hTl := hT.lt
  have hrl := hrm.lt
  generalize hhs : w.heap.size = B0 at *
  go_loopw [21, 132] (fun gv pv wr => ∃ (p g cp : Nat) (ks : List Nat), p ≤ gl ∧ pv = .int .i64 p ∧ ks.length = p ∧ (∀ x ∈ ks, x < 4) ∧ gv = .slice (some ⟨g, 0, none⟩) p cp ∧ wr.ownsRow B0 58 2 gv p (flat ks) ∧ B0 < g ∧ Blk wr B0 (hasv ks) 54 ∧ Fr w wr (fun _ => False)) (fun _ pv _ => gl - (intOf pv).toNat)
  case atStart =>
    subst hhs
    refine ⟨0, w.heap.size + 1, gl, [], Nat.zero_le _, rfl, rfl, by simp, rfl, ⟨rfl, .inr ⟨w.heap.size + 1, gl, _, rfl, by omega, Blk.newAt _ _ _ (by simp), by omega, by unfold maxLen; omega, by simp [size_madeCells], by simp [flat]⟩⟩, by omega, (Blk.new w _ _).alloc _, ((Fr.refl w _).alloc _).alloc _⟩
  case round =>
    obtain ⟨p, g, cp, ks, hp, rfl, hkl, hk4, rfl, hown, hgh, hhas, hfr⟩ := hrel
    have hfs := hfr.size
    have HK4 : Hid (∀ x ∈ ks, x < 4) := hk4
    clear hk4
    by_cases hpl : p < gl
    · obtain ⟨b3, off3, z, rfl, hb3, c3, hz⟩ := HBY.out p hpl
      have c3' : wr.cell? ⟨b3, off3 + p, none⟩ = some (.int .u8 z) := (World.cell?_of_block (hfr.block b3 (by rw [hhs]; omega) id)).trans ((hbel.cell (by exact hb3)).trans c3)
      have hpl' : (p : Int) < (gl : Int) := by omega
      obtain ⟨kn, hkn, hkn4⟩ : ∃ kn : Nat, (z : Int) % 4 = (kn : Int) ∧ kn < 4 := ⟨z % 4, by omega, by omega⟩
      have hkn4' : (kn : Int) < 4 := by omega
      have ch : wr.cell? ⟨B0, kn, none⟩ = some (.bool (decide (kn ∈ ks))) := (hhas.cell? kn).trans (hasv_get ks hkn4)
      have fh := hhas.free kn
      have hsn := sub_nk hkn4
      have hb0 : B0 ≤ wr.heap.size := by omega
      clear c3
      go_wp2_with (first
        | (at_builtin; refine wpList_append_lies _ rfl _ _ 55 rfl B0 58 i58 _ 2 32 Yba.underlying55 hi hz0 hz1 hz2 rfl (by omega) (.slice (some ⟨g, 0, none⟩) p cp) p (flat ks) rfl ((ownsRow_setCell_other hown (a := ⟨B0, kn, none⟩) (by simp [Value.ownBlock]; omega) _).alloc _) ⟨wr.heap.size, 0, none⟩ 1 1 [.string (nk kn), .string ⟨#[]⟩] rfl rfl (two_new _ _ _ _ _ (by simp)) (by simp [Value.oneCell']) (by omega) (by unfold maxLen; omega) (by omega) (by simp; omega) (wr.heap.size + 1) (by simp) ?_; intro g2 cp2 w4 hown4 hgrow4 hat4 hlt4)
        | fail)
      have hW2 : Blk ((wr.setCell ⟨B0, kn, none⟩ (.bool true)).alloc (.cells #[.string (nk kn), .string ⟨#[]⟩] 58)) B0 (hasv (ks ++ [kn])) 54 := by
        have := (hhas.set kn (.bool true)).alloc (.cells #[.string (nk kn), .string ⟨#[]⟩] 58)
        rwa [hasv_set ks hkn4] at this
      have hF4 : Fr ((wr.setCell ⟨B0, kn, none⟩ (.bool true)).alloc (.cells #[.string (nk kn), .string ⟨#[]⟩] 58)) w4 (fun k => k = g) := (Fr.refl _ _).grown hgrow4 (by intro k e _; simp [Value.ownBlock] at e; exact e.symm)
      have hF5 : Fr wr w4 (fun k => k = B0 ∨ k = g) := (((Fr.refl wr _).setCell (a := ⟨B0, kn, none⟩) (fun _ => .inl (Eq.refl B0)) _).alloc _).trans hF4 (fun k _ e => .inr e)
      refine ⟨⟨p + 1, g2, cp2, ks ++ [kn], by omega, by go_num, by simp [hkl], ?_, rfl, by rw [flat_snoc]; exact hown4, ?_, hW2.keep hF4 (by omega), hfr.trans hF5 (fun k hk e => by omega)⟩, by simp [intOf]; omega⟩
      · intro x hx
        rcases List.mem_append.1 hx with hx | hx
        · exact HK4.out x hx
        · simp at hx; omega
      · rcases hat4 with e | e
        · simp [Value.ownBlock] at e; omega
        · omega
    · have hpl' : ¬ ((p : Int) < (gl : Int)) := by omega
      have hgr : Gr wr (.slice (some ⟨g, 0, none⟩) p cp) ks := Gr.ofRow hown hkl HK4.out (by omega)
      go_wp2_with fail
      obtain ⟨wm, hwm⟩ : ∃ wm, wm = wr := ⟨wr, rfl⟩
      subst hwm
      go_loopw [25] (fun nv wq => ∃ x : Nat, x ≤ 4 ∧ nv = .int .i64 x ∧ Blk wq E (exv (fun t => cnt G t + if t < x ∧ t ∈ ks then 1 else 0)) 50 ∧ Fr wm wq (fun k => k = E)) (fun nv _ => 4 - (intOf nv).toNat)
      case atStart =>
        refine ⟨0, by omega, rfl, ?_, Fr.refl wm _⟩
        rw [exv_congr (d := cnt G) (fun i _ => by simp)]
        exact hE.keep hfr id
      case round =>
        obtain ⟨x, hx, rfl, hEr, hfq⟩ := hrel
        have hB0E : B0 ≠ E := by omega
        have hhasr := hhas.keep hfq hB0E
        by_cases hx4 : x < 4
        · have hx4' : (x : Int) < 4 := by omega
          by_cases hxk : x ∈ ks
          · have ch : wr.cell? ⟨B0, x, none⟩ = some (.bool true) := (hhasr.cell? x).trans (by rw [hasv_get ks hx4]; simp [hxk])
            have ce : wr.cell? ⟨E, x, none⟩ = some (.int .i64 (cnt G x : Nat)) := (hEr.cell? x).trans (by rw [exv_get _ hx4]; simp)
            have fe := hEr.free x
            have hcl := Nat.le_trans (cnt_le G x) hG
            go_wp2_with fail
            refine ⟨⟨x + 1, by omega, by go_num, ?_, hfq.setCell (a := ⟨E, x, none⟩) (fun _ => Eq.refl E) _⟩, by simp [intOf]; omega⟩
            have h1 := hEr.set x (.int .i64 ((cnt G x + 1 : Nat) : Int))
            rw [exv_set _ hx4] at h1
            rw [exv_congr (d := fun i => if i = x then cnt G x + 1 else cnt G i + if i < x ∧ i ∈ ks then 1 else 0)]
            · exact h1
            · intro t ht
              by_cases e : t = x
              · subst e; simp [hxk]
              · have : (t < x + 1 ∧ t ∈ ks) ↔ (t < x ∧ t ∈ ks) := ⟨fun h => ⟨by omega, h.2⟩, fun h => ⟨by omega, h.2⟩⟩
                simp [e, this]
          · have ch : wr.cell? ⟨B0, x, none⟩ = some (.bool false) := (hhasr.cell? x).trans (by rw [hasv_get ks hx4]; simp [hxk])
            go_wp2_with fail
            refine ⟨⟨x + 1, by omega, by go_num, ?_, hfq⟩, by simp [intOf]; omega⟩
            rw [exv_congr (d := fun t => cnt G t + if t < x ∧ t ∈ ks then 1 else 0)]
            · exact hEr
            · intro t ht
              by_cases e : t = x
              · subst e; simp [hxk]
              · have : (t < x + 1 ∧ t ∈ ks) ↔ (t < x ∧ t ∈ ks) := ⟨fun h => ⟨by omega, h.2⟩, fun h => ⟨by omega, h.2⟩⟩
                simp [this]
        · have hx4' : ¬ ((x : Int) < 4) := by omega
          have hxe : x = 4 := by omega
          subst hxe
          have hEr' : Blk wr E (exv (cnt (G ++ [ks]))) 50 := by
            rw [exv_congr (d := fun t => cnt G t + if t < 4 ∧ t ∈ ks then 1 else 0)]
            · exact hEr
            · intro t ht
              rw [cnt_append, cnt_one]
              simp [ht]
          have hTr := (hT.keep hfr id).keep hfq (Blk.ne hT hE (by decide))
          have ct : wr.cell? ⟨T, 1, none⟩ = some (.map (some rm)) := hTr.cell? 1
          have hrE : rm ≠ E := Ne.symm (hE.neMp hrm)
          have hrr := (hrm.keep hfr id).keep hfq hrE
          obtain ⟨w5, hrun5, hm5, hg5⟩ := hrr.drew.upd Yba.underlying59 (by unfold maxLen; omega) (rk_size j) (.slice (some ⟨g, 0, none⟩) p cp)
          have hsr := sub_rk hj8
          have hct := cat_rk j
          go_wp2_with fail
          go_region
          have hF5 : Fr wr w5 (fun k => k = rm) := ((Fr.refl wr _).drew).grown hg5 (by intro k e _; cases e; rfl)
          rw [put_new hM] at hm5
          have hFw : Fr w w5 (fun k => k = E ∨ k = rm) := ((hfr.mono (fun _ _ e => e.elim)).trans hfq (fun _ _ e => .inl e)).trans hF5 (fun _ _ e => .inr e)
          have h58 : ∀ g' cs, Blk wm g' cs 58 → ¬ (g' = E ∨ g' = rm) := fun g' cs hb => nor (hb.ne (hE.keep hfr id) (by decide)) (hb.neMp (hrm.keep hfr id))
          have hgr5 : Gr w5 (.slice (some ⟨g, 0, none⟩) p cp) ks := hgr.keep ((hfq.mono (fun _ _ e => .inl e)).trans hF5 (fun _ _ e => .inr e)) h58
          refine HQ.out w5 ⟨ks, _, hgr5, hEr'.keep hF5 (Ne.symm hrE), hm5⟩ hFw
end Go.Proofs.Ybulkuvc
