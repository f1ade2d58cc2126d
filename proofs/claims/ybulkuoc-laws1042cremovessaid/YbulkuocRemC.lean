/- LawS1042CRemoves, its third part: the run. -/
import Derived.Test.YbulkuocRemB
namespace Go.Proofs.Ybulkuoc
open Go.RowKit

theorem build84 (I T n : Nat) (w : World) : (Instr.build 84 #[(1, .slice (some ⟨I, 0, none⟩) 1 1), (3, .slice (some ⟨T, 0, none⟩) n n)]).run Yba.prog w =
    .ok (.agg #[.slice none 0 0, .slice (some ⟨I, 0, none⟩) 1 1, .slice none 0 0, .slice (some ⟨T, 0, none⟩) n n, .pointer none, .slice none 0 0, .slice none 0 0, .slice none 0 0, .slice none 0 0, .int .i64 0, .slice none 0 0, .slice none 0 0, .slice none 0 0, .slice none 0 0, .slice none 0 0, .pointer none, .slice none 0 0, .slice none 0 0, .slice none 0 0, .int .i64 0, .nilFunc, .slice none 0 0]) w := run_build w 84 _ _ (by kernel_rfl)
theorem make23 (w : World) : (Instr.makeSlice 23 (.int .i64 2) (.int .i64 2)).run Yba.prog w = .ok (.slice (some ⟨w.heap.size, 0, none⟩) 2 2) (w.alloc (.cells #[.slice none 0 0, .slice none 0 0] 26)) := by kernel_rfl
theorem buildS26x (x : Int) (w : World) : (Instr.buildSlice 26 1 #[(0, .int .i64 x)]).run Yba.prog w = .ok (.slice (some ⟨w.heap.size, 0, none⟩) 1 1) (w.alloc (.cells #[.int .i64 x] 3)) := by kernel_rfl

/-- The cell that waits: list j (3: the upgraders), item q. -/
def wcell (up : Bool) (mm xx L n j q : Nat) : Value := if (if up then j = 3 else j = mm) ∧ q = xx then .slice (some ⟨L, 0, none⟩) n n else .slice none 0 0

/-- The run: its record, its lists. -/
structure RunIs (w : World) (R I T L n mm xx : Nat) (up : Bool) (Wb : Nat → Nat) (rc : Array Value) : Prop where
  r : Blk w R rc 84
  r1 : rc[1]? = some (.slice (some ⟨I, 0, none⟩) 1 1)
  r3 : rc[3]? = some (.slice (some ⟨T, 0, none⟩) n n)
  r5 : ∀ j, j < 4 → rc[5 + j]? = some (.slice (some ⟨Wb j, 0, none⟩) 2 2)
  r15 : 15 < rc.size
  i : Blk w I #[.int .i64 (xx : Int)] 3
  ws : ∀ j, j < 4 → Blk w (Wb j) #[wcell up mm xx L n j 0, wcell up mm xx L n j 1] 26
  inj : ∀ j k, j < 4 → k < 4 → Wb j = Wb k → j = k

theorem runIs_mk {w : World} {H T L n mm xx jj : Nat} {up : Bool} (hmm : mm < 3) (hxx : xx < 2) (hjj : jj = if up then 3 else mm) (hI : Blk w H #[.int .i64 (xx : Int)] 3) (hR : Blk w (H + 1) #[.slice none 0 0, .slice (some ⟨H, 0, none⟩) 1 1, .slice none 0 0, .slice (some ⟨T, 0, none⟩) n n, .pointer none, .slice (some ⟨H + 2, 0, none⟩) 2 2, .slice (some ⟨H + 3, 0, none⟩) 2 2, .slice (some ⟨H + 4, 0, none⟩) 2 2, .slice (some ⟨H + 5, 0, none⟩) 2 2, .int .i64 0, .slice none 0 0, .slice none 0 0, .slice none 0 0, .slice none 0 0, .slice none 0 0, .pointer none, .slice none 0 0, .slice none 0 0, .slice none 0 0, .int .i64 0, .nilFunc, .slice none 0 0] 84)
    (h0 : Blk w (H + 2) #[.slice none 0 0, .slice none 0 0] 26) (h1 : Blk w (H + 3) #[.slice none 0 0, .slice none 0 0] 26) (h2 : Blk w (H + 4) #[.slice none 0 0, .slice none 0 0] 26) (h3 : Blk w (H + 5) #[.slice none 0 0, .slice none 0 0] 26) :
    RunIs (w.setCell ⟨H + 2 + jj, xx, none⟩ (.slice (some ⟨L, 0, none⟩) n n)) (H + 1) H T L n mm xx up (fun j => H + 2 + j) #[.slice none 0 0, .slice (some ⟨H, 0, none⟩) 1 1, .slice none 0 0, .slice (some ⟨T, 0, none⟩) n n, .pointer none, .slice (some ⟨H + 2, 0, none⟩) 2 2, .slice (some ⟨H + 3, 0, none⟩) 2 2, .slice (some ⟨H + 4, 0, none⟩) 2 2, .slice (some ⟨H + 5, 0, none⟩) 2 2, .int .i64 0, .slice none 0 0, .slice none 0 0, .slice none 0 0, .slice none 0 0, .slice none 0 0, .pointer none, .slice none 0 0, .slice none 0 0, .slice none 0 0, .int .i64 0, .nilFunc, .slice none 0 0] := by
  have hjj4 : jj < 4 := by rw [hjj]; split <;> omega
  have hws : ∀ j, j < 4 → Blk w (H + 2 + j) #[.slice none 0 0, .slice none 0 0] 26 := by
    intro j hj
    match j, hj with
    | 0, _ => exact h0
    | 1, _ => exact h1
    | 2, _ => exact h2
    | 3, _ => exact h3
  refine ⟨hR.other (by simp; omega) _, rfl, rfl, ?_, by simp, hI.other (by simp; omega) _, ?_, fun j k _ _ e => by simp at e; exact e⟩
  · intro j hj
    match j, hj with
    | 0, _ => rfl
    | 1, _ => rfl
    | 2, _ => rfl
    | 3, _ => rfl
  · intro j hj
    by_cases e : j = jj
    · subst e
      have h5 := (hws j hj).set xx (.slice (some ⟨L, 0, none⟩) n n)
      have hcond : (if up then j = 3 else j = mm) := by cases up <;> simp_all
      match xx, hxx, h5 with
      | 0, _, h5 => simpa [wcell, hcond] using h5
      | 1, _, h5 => simpa [wcell, hcond] using h5
    · have hcond : ¬ (if up then j = 3 else j = mm) := by cases up <;> simp_all
      have h5 := (hws j hj).other (a := ⟨H + 2 + jj, xx, none⟩) (by simp; omega) (.slice (some ⟨L, 0, none⟩) n n)
      simpa [wcell, hcond] using h5

set_option maxRecDepth 100000 in
set_option maxHeartbeats 2000000 in
theorem phC (a0 : Option Addr) (len cap : Nat) (s m i : Int) (up : Bool) (w0 : World) (hlen : len ≤ 1024)
    (hN : ∀ (P T R I L mm xx : Nat) (Wb : Nat → Nat) (pl : List Nat) (tc rc : Array Value) (w : World) {x5 x6 x7 x8 x9 x13 x14 x15 x16 x20 x21 x23 x24 x25 x26 x27 x28 x29 x30 x31 x32 x33 x34 x35 x36 x37 x38 x39 x40 x41 x42 x43 x44 x45 x46 x47 x48 x49 x50 x51 x52 x53 x54 x55 x56 x57 x58 x59 x60 x61 x62 x63 x64 x65 x66 x67 x68 x69 x70 x71 x72 x73 x74 x75 x76 x77 x78 x79 x80 x81 x82 x83 x84 x85 x86 x87 x88 x89 x90 x91 x92 x93 x94 x95 x96 x97 x98 x99 x100 x101 x102 x103 x104 x105 x106 x107 x108 x109 x110 x111 x112 x113 x114 x115 x116 x117 x118 x119 x120 x121 x122 x123 x124 x125 x126 x127 x128 x129 x130 x131 x132 x133 x134 x135 x136 x137 x138 x139 x140 x141 x142 x143 x144 x145 x146 x147 x148 x149 x150 x151 x152 x153 x154 x155 x156 x157 x158 x159 x160 x161 x162 x163 x164 x165 x166 x167 x168 x169 x170 x171 x172 x173 x174 x175 x176 x177 x178 x179 x180 x181 x182 x183 x184 x185 x186 x187 x188 x189 x190 x191 x192 x193 x194 x195 x196 x197 x198 x199 x200 x201 x202 x203 x204 x205 x206 x207 x208 x209 x210 x211 x212 x213 x214 x215 x216 x217 x218 x219 x220 x221 x222 x223 x224 x225 x226 x227 x228 x229 x230 x231 x232 x233 x234 x235 x236 x237 x238 x239 x240 x241 x242 x243 x244 x245 x246 x247 x248 x249 x250 x251 x252 x253 x254 x255 x256 x257 x258 x259 x260 x261 x262 x263 x264 x265 x266 x267 x268 x269 x270 x271 x272 x273 x274 x275 x276 x277 x278 x279 x280 x281 x282 x283 x284 x285 x286 x287 x288 x289 x290 x291 x292 x293 x294 x295 x296 x297 x298 x299 x300 x301 x302 x303 x304 x305 x306 x307 x308 : Value}, mm < 3 → xx < 2 → PL (len + 1) pl → w0.heap.size ≤ P → w0.heap.size ≤ T → w0.heap.size ≤ R → w0.heap.size ≤ L → (∀ j, j < 4 → w0.heap.size ≤ Wb j) →
      Below w0.heap.size w0 w → Blk w P (ints pl) 3 → Blk w T tc 71 → tc.size = (len + 1) * 9 → (∀ j v, pl[j]? = some v → Tx tc mm up v j) → RunIs w R I T L (len + 1) mm xx up Wb rc → Blk w L (ints pl) 3 → P ≠ L → Code.wp Yba.prog (dropSeq 16 (Yba.f7.body.getD .skip)) (bodyPost Yba.prog Yba.f7 (fun e w' => e = .returned (.bool true) ∧ Below w0.heap.size w0 w')) ⟨#[.slice a0 len cap, .int .u8 s, .int .u8 m, .int .u8 i, .bool up, x5, x6, x7, x8, x9, .bool false, .int .i64 (len + 1), .slice (some ⟨P, 0, none⟩) (len + 1) (len + 1), x13, x14, x15, x16, .int .u8 (mm : Nat), .int .i64 (xx : Nat), .slice (some ⟨T, 0, none⟩) (len + 1) (len + 1), x20, x21, .pointer (some ⟨R, 0, none⟩), x23, x24, x25, x26, x27, x28, x29, x30, x31, x32, x33, x34, x35, x36, x37, x38, x39, x40, x41, x42, x43, x44, x45, x46, x47, x48, x49, x50, x51, x52, x53, x54, x55, x56, x57, x58, x59, x60, x61, x62, x63, x64, x65, x66, x67, x68, x69, x70, x71, x72, x73, x74, x75, x76, x77, x78, x79, x80, x81, x82, x83, x84, x85, x86, x87, x88, x89, x90, x91, x92, x93, x94, x95, x96, x97, x98, x99, x100, x101, x102, x103, x104, x105, x106, x107, x108, x109, x110, x111, x112, x113, x114, x115, x116, x117, x118, x119, x120, x121, x122, x123, x124, x125, x126, x127, x128, x129, x130, x131, x132, x133, x134, x135, x136, x137, x138, x139, x140, x141, x142, x143, x144, x145, x146, x147, x148, x149, x150, x151, x152, x153, x154, x155, x156, x157, x158, x159, x160, x161, x162, x163, x164, x165, x166, x167, x168, x169, x170, x171, x172, x173, x174, x175, x176, x177, x178, x179, x180, x181, x182, x183, x184, x185, x186, x187, x188, x189, x190, x191, x192, x193, x194, x195, x196, x197, x198, x199, x200, x201, x202, x203, x204, x205, x206, x207, x208, x209, x210, x211, x212, x213, x214, x215, x216, x217, x218, x219, x220, x221, x222, x223, x224, x225, x226, x227, x228, x229, x230, x231, x232, x233, x234, x235, x236, x237, x238, x239, x240, x241, x242, x243, x244, x245, x246, x247, x248, x249, x250, x251, x252, x253, x254, x255, x256, x257, x258, x259, x260, x261, x262, x263, x264, x265, x266, x267, x268, x269, x270, x271, x272, x273, x274, x275, x276, x277, x278, x279, x280, x281, x282, x283, x284, x285, x286, x287, x288, x289, x290, x291, x292, x293, x294, x295, x296, x297, x298, x299, x300, x301, x302, x303, x304, x305, x306, x307, x308], []⟩ w)
    (P T mm xx : Nat) (pl : List Nat) (tc : Array Value) (w : World) {x5 x6 x7 x8 x9 x13 x14 x15 x16 x20 x21 x22 x23 x24 x25 x26 x27 x28 x29 x30 x31 x32 x33 x34 x35 x36 x37 x38 x39 x40 x41 x42 x43 x44 x45 x46 x47 x48 x49 x50 x51 x52 x53 x54 x55 x56 x57 x58 x59 x60 x61 x62 x63 x64 x65 x66 x67 x68 x69 x70 x71 x72 x73 x74 x75 x76 x77 x78 x79 x80 x81 x82 x83 x84 x85 x86 x87 x88 x89 x90 x91 x92 x93 x94 x95 x96 x97 x98 x99 x100 x101 x102 x103 x104 x105 x106 x107 x108 x109 x110 x111 x112 x113 x114 x115 x116 x117 x118 x119 x120 x121 x122 x123 x124 x125 x126 x127 x128 x129 x130 x131 x132 x133 x134 x135 x136 x137 x138 x139 x140 x141 x142 x143 x144 x145 x146 x147 x148 x149 x150 x151 x152 x153 x154 x155 x156 x157 x158 x159 x160 x161 x162 x163 x164 x165 x166 x167 x168 x169 x170 x171 x172 x173 x174 x175 x176 x177 x178 x179 x180 x181 x182 x183 x184 x185 x186 x187 x188 x189 x190 x191 x192 x193 x194 x195 x196 x197 x198 x199 x200 x201 x202 x203 x204 x205 x206 x207 x208 x209 x210 x211 x212 x213 x214 x215 x216 x217 x218 x219 x220 x221 x222 x223 x224 x225 x226 x227 x228 x229 x230 x231 x232 x233 x234 x235 x236 x237 x238 x239 x240 x241 x242 x243 x244 x245 x246 x247 x248 x249 x250 x251 x252 x253 x254 x255 x256 x257 x258 x259 x260 x261 x262 x263 x264 x265 x266 x267 x268 x269 x270 x271 x272 x273 x274 x275 x276 x277 x278 x279 x280 x281 x282 x283 x284 x285 x286 x287 x288 x289 x290 x291 x292 x293 x294 x295 x296 x297 x298 x299 x300 x301 x302 x303 x304 x305 x306 x307 x308 : Value} (hmm : mm < 3) (hxx : xx < 2) (hpl : PL (len + 1) pl) (hP : w0.heap.size ≤ P) (hTb : w0.heap.size ≤ T) (hbl : Below w0.heap.size w0 w) (hp : Blk w P (ints pl) 3) (hT : Blk w T tc 71) (hts : tc.size = (len + 1) * 9)
    (htx : ∀ j v, pl[j]? = some v → Tx tc mm up v j) :
    Code.wp Yba.prog (dropSeq 10 (Yba.f7.body.getD .skip)) (bodyPost Yba.prog Yba.f7 (fun e w' => e = .returned (.bool true) ∧ Below w0.heap.size w0 w')) ⟨#[.slice a0 len cap, .int .u8 s, .int .u8 m, .int .u8 i, .bool up, x5, x6, x7, x8, x9, .bool false, .int .i64 (len + 1), .slice (some ⟨P, 0, none⟩) (len + 1) (len + 1), x13, x14, x15, x16, .int .u8 (mm : Nat), .int .i64 (xx : Nat), .slice (some ⟨T, 0, none⟩) (len + 1) (len + 1), x20, x21, x22, x23, x24, x25, x26, x27, x28, x29, x30, x31, x32, x33, x34, x35, x36, x37, x38, x39, x40, x41, x42, x43, x44, x45, x46, x47, x48, x49, x50, x51, x52, x53, x54, x55, x56, x57, x58, x59, x60, x61, x62, x63, x64, x65, x66, x67, x68, x69, x70, x71, x72, x73, x74, x75, x76, x77, x78, x79, x80, x81, x82, x83, x84, x85, x86, x87, x88, x89, x90, x91, x92, x93, x94, x95, x96, x97, x98, x99, x100, x101, x102, x103, x104, x105, x106, x107, x108, x109, x110, x111, x112, x113, x114, x115, x116, x117, x118, x119, x120, x121, x122, x123, x124, x125, x126, x127, x128, x129, x130, x131, x132, x133, x134, x135, x136, x137, x138, x139, x140, x141, x142, x143, x144, x145, x146, x147, x148, x149, x150, x151, x152, x153, x154, x155, x156, x157, x158, x159, x160, x161, x162, x163, x164, x165, x166, x167, x168, x169, x170, x171, x172, x173, x174, x175, x176, x177, x178, x179, x180, x181, x182, x183, x184, x185, x186, x187, x188, x189, x190, x191, x192, x193, x194, x195, x196, x197, x198, x199, x200, x201, x202, x203, x204, x205, x206, x207, x208, x209, x210, x211, x212, x213, x214, x215, x216, x217, x218, x219, x220, x221, x222, x223, x224, x225, x226, x227, x228, x229, x230, x231, x232, x233, x234, x235, x236, x237, x238, x239, x240, x241, x242, x243, x244, x245, x246, x247, x248, x249, x250, x251, x252, x253, x254, x255, x256, x257, x258, x259, x260, x261, x262, x263, x264, x265, x266, x267, x268, x269, x270, x271, x272, x273, x274, x275, x276, x277, x278, x279, x280, x281, x282, x283, x284, x285, x286, x287, x288, x289, x290, x291, x292, x293, x294, x295, x296, x297, x298, x299, x300, x301, x302, x303, x304, x305, x306, x307, x308], []⟩ w := by
  have HN := show Hid _ from hN
  have HTX : Hid (∀ j v, pl[j]? = some v → Tx tc mm up v j) := htx
  clear hN htx
  have hB0' : w0.heap.size ≤ w.heap.size + 1 := by have := hbl.size; omega
  have hb84 := build84
  have hm23 := make23
  have hbs := buildS26x
  have hmk : ∀ w, (Instr.makeSlice 26 (.int .i64 ((len : Int) + 1)) (.int .i64 ((len : Int) + 1))).run Yba.prog w = .ok (.slice (some ⟨w.heap.size, 0, none⟩) (len + 1) (len + 1)) (w.alloc (.cells (madeCells #[.int .i64 0] (len + 1)) 3)) :=
    fun w => run_make_row' 26 3 (.int .i64 0) 8 Yba.underlying26 info3r rfl .i64 .i64 (len + 1) (by omega) (by omega) w
  conv => arg 2; whnf
  go_upto_block 6 with fail
  go_cut [23] from 113 to 122 (fun _ wc => Below w0.heap.size w0 wc ∧ Blk wc P (ints pl) 3 ∧ Blk wc T tc 71 ∧ Blk wc w.heap.size #[.int .i64 (xx : Int)] 3 ∧
      Blk wc (w.heap.size + 1) #[.slice none 0 0, .slice (some ⟨w.heap.size, 0, none⟩) 1 1, .slice none 0 0, .slice (some ⟨T, 0, none⟩) (len + 1) (len + 1), .pointer none, .slice (some ⟨w.heap.size + 2, 0, none⟩) 2 2, .slice (some ⟨w.heap.size + 3, 0, none⟩) 2 2, .slice (some ⟨w.heap.size + 4, 0, none⟩) 2 2, .slice none 0 0, .int .i64 0, .slice none 0 0, .slice none 0 0, .slice none 0 0, .slice none 0 0, .slice none 0 0, .pointer none, .slice none 0 0, .slice none 0 0, .slice none 0 0, .int .i64 0, .nilFunc, .slice none 0 0] 84 ∧
      Blk wc (w.heap.size + 2) #[.slice none 0 0, .slice none 0 0] 26 ∧ Blk wc (w.heap.size + 3) #[.slice none 0 0, .slice none 0 0] 26 ∧ Blk wc (w.heap.size + 4) #[.slice none 0 0, .slice none 0 0] 26 ∧ wc.heap.size = w.heap.size + 5)
  case first =>
    go_wp2_with fail
    refine wp_loop_rounds 4 ?_
    rw [rounds_succ]
    go_wp2_with fail
    go_region
    go_wp2_with fail
    rw [rounds_succ]
    go_wp2_with fail
    go_region
    go_wp2_with fail
    rw [rounds_succ]
    go_wp2_with fail
    go_region
    go_wp2_with fail
    rw [rounds_succ]
    go_wp2_with fail
    go_meet
    go_light
    refine ⟨?_, ?_, ?_, ?_, ?_, ?_, ?_, ?_, by simp⟩
    · exact ((((((hbl.alloc hbl.size _).alloc (by simp; have := hbl.size; omega) _).alloc (by simp; have := hbl.size; omega) _).alloc (by simp; have := hbl.size; omega) _).alloc (by simp; have := hbl.size; omega) _).drew).drew.drew
    · exact ((((((hp.alloc _).alloc _).alloc _).alloc _).alloc _).drew).drew.drew
    · exact ((((((hT.alloc _).alloc _).alloc _).alloc _).alloc _).drew).drew.drew
    all_goals
      refine Blk.drew (Blk.drew (Blk.drew ?_))
      repeat (first | (refine blk_here ?_; simp; done) | refine Blk.alloc ?_ _)
  case rest =>
    obtain ⟨hbl1, hp1, hT1, hI1, hR1, hW0, hW1, hW2, hsz⟩ := hcut
    clear hbl hp hT
    have c8 := hR1.cell (i := 8) rfl
    have f8 := hR1.free 8
    have hRlt : w.heap.size + 1 < wc.heap.size := by omega
    have nP : P ≠ w.heap.size + 1 := hp1.ne hR1 (by decide)
    have nT : T ≠ w.heap.size + 1 := hT1.ne hR1 (by decide)
    obtain ⟨w4, hcp, hL4, ho4⟩ := copy_run (w := ((wc.setCell ⟨w.heap.size + 1, 8, none⟩ (.slice (some ⟨w.heap.size + 5, 0, none⟩) 2 2)).alloc (.cells #[.slice none 0 0, .slice none 0 0] 26)).alloc (.cells (madeCells #[.int .i64 0] (len + 1)) 3))
      (g := w.heap.size + 5 + 1) (o := 0) (dLen := len + 1) (dCap := len + 1) (sb := P) (so := 0) (sLen := len + 1) (sCap := len + 1) (k := len + 1) (ints pl).toList
      (blk_here (by simp [hsz])) (((hp1.other nP _).alloc _).alloc _) (Nat.min_self _).symm (by simp [ints_size, hpl.len]) (fun j hj => by simp) (by simp [size_madeCells]) (by simp [ints, Value.oneCell']) 3
    have hL5 : Blk w4 (w.heap.size + 5 + 1) (ints pl) 3 := by
      have e : ((madeCells #[.int .i64 0] (len + 1)).toList.take 0 ++ (ints pl).toList ++ (madeCells #[.int .i64 0] (len + 1)).toList.drop (0 + (len + 1))).toArray = ints pl := by
        rw [List.drop_of_length_le (by simp [size_madeCells])]; simp
      rw [e] at hL4; exact hL4
    clear hL4
    have hP4 : Blk w4 P (ints pl) 3 := ho4.blk (((hp1.other nP _).alloc _).alloc _) (by have := hp1.lt; omega)
    have hT4 : Blk w4 T tc 71 := ho4.blk (((hT1.other nT _).alloc _).alloc _) (by have := hT1.lt; omega)
    have hI4 : Blk w4 w.heap.size #[.int .i64 (xx : Int)] 3 := ho4.blk (((hI1.other (by simp) _).alloc _).alloc _) (by omega)
    have hR4 : Blk w4 (w.heap.size + 1) #[.slice none 0 0, .slice (some ⟨w.heap.size, 0, none⟩) 1 1, .slice none 0 0, .slice (some ⟨T, 0, none⟩) (len + 1) (len + 1), .pointer none, .slice (some ⟨w.heap.size + 2, 0, none⟩) 2 2, .slice (some ⟨w.heap.size + 3, 0, none⟩) 2 2, .slice (some ⟨w.heap.size + 4, 0, none⟩) 2 2, .slice (some ⟨w.heap.size + 5, 0, none⟩) 2 2, .int .i64 0, .slice none 0 0, .slice none 0 0, .slice none 0 0, .slice none 0 0, .slice none 0 0, .pointer none, .slice none 0 0, .slice none 0 0, .slice none 0 0, .int .i64 0, .nilFunc, .slice none 0 0] 84 := ho4.blk (((hR1.set 8 _).alloc _).alloc _) (by omega)
    have hA4 : Blk w4 (w.heap.size + 2) #[.slice none 0 0, .slice none 0 0] 26 := ho4.blk (((hW0.other (by simp) _).alloc _).alloc _) (by omega)
    have hB4 : Blk w4 (w.heap.size + 3) #[.slice none 0 0, .slice none 0 0] 26 := ho4.blk (((hW1.other (by simp) _).alloc _).alloc _) (by omega)
    have hC4 : Blk w4 (w.heap.size + 4) #[.slice none 0 0, .slice none 0 0] 26 := ho4.blk (((hW2.other (by simp) _).alloc _).alloc _) (by omega)
    have hU4 : Blk w4 (w.heap.size + 5) #[.slice none 0 0, .slice none 0 0] 26 := ho4.blk ((blk_here (by simp [hsz])).alloc _) (by omega)
    have hbs0 := hbl1.size
    have hPL : P ≠ w.heap.size + 5 + 1 := by have := hp1.lt; omega
    have hbl4 : Below w0.heap.size w0 w4 := (((hbl1.setCell (p := ⟨w.heap.size + 1, 8, none⟩) hB0' _).alloc (by simp; omega) _).alloc (by simp; omega) _).trans (ho4.below (by omega))
    have HO : Hid (Blk w4 (w.heap.size + 5 + 1) (ints pl) 3 ∧ Blk w4 P (ints pl) 3 ∧ Blk w4 T tc 71 ∧ Blk w4 w.heap.size #[.int .i64 (xx : Int)] 3 ∧ Below w0.heap.size w0 w4) := ⟨hL5, hP4, hT4, hI4, hbl4⟩
    clear hL5 hP4 hT4 hI4 hbl4 ho4 hW0 hW1 hW2 hI1 hT1 hp1 hR1
    have c5 := hR4.cell (i := 5) rfl
    have c6 := hR4.cell (i := 6) rfl
    have c7 := hR4.cell (i := 7) rfl
    have c8' := hR4.cell (i := 8) rfl
    rename_i hk
    apply hk
    go_upto_if 132 with fail
    go_cut [24] from 133 to 148 (fun _ w5 => ∃ rc, Below w0.heap.size w0 w5 ∧ Blk w5 P (ints pl) 3 ∧ Blk w5 T tc 71 ∧ Blk w5 (w.heap.size + 5 + 1) (ints pl) 3 ∧ RunIs w5 (w.heap.size + 1) w.heap.size T (w.heap.size + 5 + 1) (len + 1) mm xx up (fun j => w.heap.size + 2 + j) rc)
    case rest =>
      obtain ⟨rc, q1, q2, q3, q4, q5⟩ := hcut
      rename_i hk2
      apply hk2
      exact HN.out P T _ _ _ mm xx _ pl tc rc _ hmm hxx hpl hP hTb (by omega) (by omega) (fun j _ => by omega) q1 q2 q3 hts HTX.out q5 q4 hPL
    case first =>
      cases up with
      | true =>
        have d0 : w4.cell? ⟨w.heap.size + 5, xx, none⟩ = some (.slice none 0 0) := hU4.cell (by match xx, hxx with | 0, _ => rfl | 1, _ => rfl)
        have f0 := hU4.free xx
        have e1 : (xx : Int) < 2 := by omega
        go_wp2_with fail
        go_meet
        go_light
        exact ⟨_, HO.out.2.2.2.2.setCell (p := ⟨w.heap.size + 5, xx, none⟩) (by show w0.heap.size ≤ w.heap.size + 5; omega) _, HO.out.2.1.other (HO.out.2.1.ne hU4 (by decide)) _, HO.out.2.2.1.other (HO.out.2.2.1.ne hU4 (by decide)) _, HO.out.1.other (HO.out.1.ne hU4 (by decide)) _, runIs_mk (jj := 3) hmm hxx rfl HO.out.2.2.2.1 hR4 hA4 hB4 hC4 hU4⟩
      | false =>
        have hWm : Blk w4 (w.heap.size + 2 + mm) #[.slice none 0 0, .slice none 0 0] 26 := by match mm, hmm with | 0, _ => exact hA4 | 1, _ => exact hB4 | 2, _ => exact hC4
        have d0 : w4.cell? ⟨w.heap.size + 2 + mm, xx, none⟩ = some (.slice none 0 0) := hWm.cell (by match xx, hxx with | 0, _ => rfl | 1, _ => rfl)
        have f0 := hWm.free xx
        have c9 : w4.cell? ⟨w.heap.size + 1, 5 + mm, none⟩ = some (.slice (some ⟨w.heap.size + 2 + mm, 0, none⟩) 2 2) := hR4.cell (by match mm, hmm with | 0, _ => rfl | 1, _ => rfl | 2, _ => rfl)
        have e1 : (xx : Int) < 2 := by omega
        have e2 : (mm : Int) < 3 := by omega
        go_wp2_with fail
        go_meet
        go_light
        exact ⟨_, HO.out.2.2.2.2.setCell (p := ⟨w.heap.size + 2 + mm, xx, none⟩) (by show w0.heap.size ≤ w.heap.size + 2 + mm; omega) _, HO.out.2.1.other (HO.out.2.1.ne hWm (by decide)) _, HO.out.2.2.1.other (HO.out.2.2.1.ne hWm (by decide)) _, HO.out.1.other (HO.out.1.ne hWm (by decide)) _, runIs_mk (jj := mm) hmm hxx rfl HO.out.2.2.2.1 hR4 hA4 hB4 hC4 hU4⟩

end Go.Proofs.Ybulkuoc
