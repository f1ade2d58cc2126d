/- LawS1055BCommit: what the closures saw; which tables stand. -/
import Derived.Test.YbulkuvcLawE
namespace Go.Proofs.Ybulkuvc
open Go.RowKit Go.Maps Go.WideMaps

theorem row2 {w : World} {base : Nat} {v x y : Value} (h : w.ownsRow base 3 1 v 2 [x, y]) : ∃ g cap, v = .slice (some ⟨g, 0, none⟩) 2 cap ∧ w.cell? ⟨g, 0, none⟩ = some x ∧ w.cell? ⟨g, 1, none⟩ = some y := by
  rcases h.2 with ⟨_, h0⟩ | ⟨g, cap, cur, h1, h2, h3, h4, h5, h6, h7⟩
  · omega
  · have hb : Blk w g cur 3 := h3
    have q : ∀ i, i < 2 → cur[i]? = [x, y][i]? := by
      intro i hi
      have := congrArg (fun l => l[i]?) h7
      rw [← show (List.take (2 * 1) cur.toList)[i]? = [x, y][i]? from this, List.getElem?_take, if_pos (by omega)]
      simp
    exact ⟨g, cap, h1, (hb.cell? 0).trans (q 0 (by omega)), (hb.cell? 1).trans (q 1 (by omega))⟩
theorem info72 : (Yba.prog.info? 72).map (fun i => (i.zero, i.size, i.bytes)) = some (some (.agg #[.map none, .map none, .map none, .map none]), 4, 32) := by kernel_rfl
theorem same44 (b : Nat) (w : World) : (binOp .neq 44 (.pointer (some ⟨b, 0, none⟩)) (.pointer (some ⟨b, 0, none⟩))).run Yba.prog w = .ok (.bool false) w := by
  obtain ⟨i, hi, _⟩ := info_parts info72
  exact ptr_same _ Yba.underlying44 hi w
theorem other44 {b c a1 a2 a3 a4 c1 c2 c3 c4 : Nat} {w : World} (hb : Tab w b a1 a2 a3 a4) (hc : Tab w c c1 c2 c3 c4) (hne : b ≠ c) : (binOp .eql 44 (.pointer (some ⟨b, 0, none⟩)) (.pointer (some ⟨c, 0, none⟩))).run Yba.prog w = .ok (.bool false) w := by
  obtain ⟨i, hi, _, hz, _⟩ := info_parts info72
  exact run_eql_ptr_other w Yba.underlying44 hi (by rw [hz]; decide) (by intro e; exact hne (congrArg Addr.block e)) hb hc

set_option maxRecDepth 100000 in
set_option maxHeartbeats 2000000 in
theorem phE1_nil (sv S L gb stg exp base lb lv tv gv av a tt na ra N : Nat) (m : Ents) (gs : List (List Nat)) (st : List (Option Nat)) (w0 w : World) {x0 x1 x2 x3 x4 x5 x6 x7 x8 x15 x16 x17 x18 x19 x20 x21 x22 x23 x24 x25 x31 x32 x33 x34 x35 x36 x37 x38 x39 x40 x41 x42 x43 x44 x45 x46 x47 x48 x49 x50 x51 x52 x53 x54 x55 x56 x57 x58 x59 x60 x61 x62 x63 x64 x65 x66 x67 x68 x69 x70 x71 x72 x73 x74 x75 x76 x77 x78 x79 x80 x81 x82 x83 x84 x85 x86 x87 x88 x89 x90 x91 x92 x93 x94 x95 x96 x97 x98 x99 x100 x101 x102 x103 x104 x105 x106 x107 x108 x109 x110 x111 x112 x113 x114 x115 x116 x117 x118 x119 x120 x121 x122 x123 x124 x125 x126 x127 x128 x129 x130 x131 x132 x133 x134 x135 x136 x137 x138 x139 x140 x141 x142 x143 x144 x145 x146 x147 x148 x149 x150 x151 x152 x153 x154 x155 x156 x157 x158 x159 x160 x161 x162 x163 x164 x165 x166 x167 x168 x169 x170 x171 x172 x173 x174 x175 x176 x177 x178 x179 x180 x181 x182 x183 x184 x185 x186 x187 x188 x189 x190 x191 x192 x193 x194 x195 x196 x197 x198 x199 x200 x201 x202 x203 x204 x205 x206 x207 x208 x209 x210 x211 x212 x213 x214 x215 x216 x217 x218 x219 x220 x221 x222 x223 x224 x225 x226 x227 x228 x229 x230 x231 x232 x233 x234 x235 x236 x237 x238 x239 x240 x241 x242 x243 x244 x245 x246 x247 x248 x249 x250 x251 x252 x253 x254 x255 x256 x257 x258 x259 x260 x261 x262 x263 x264 x265 x266 x267 x268 x269 x270 x271 x272 x273 x274 x275 x276 x277 x278 x279 x280 x281 x282 x283 x284 x285 x286 x287 x288 x289 x290 x291 x292 x293 x294 x295 x296 x297 x298 x299 x300 x301 x302 x303 x304 x305 x306 x307 x308 x309 x310 x311 x312 x313 x314 x315 x316 x317 x318 x319 x320 x321 x322 x323 x324 x325 x326 x327 x328 x329 x330 x331 x332 x333 x334 x335 x336 x337 x338 x339 x340 x341 x342 x343 x344 x345 x346 x347 : Value} (hF : FE w0 w sv S L gb stg exp av a tt na ra m gs st)
    (hst4 : st.length = 4) (hlk : ∀ k b, st[k]? = some (some b) → look m (tk k) = some (.pointer (some ⟨b, 0, none⟩))) (hd : Done w S L gb base lb lv tv gv av N (nks gs)) (hN : m.length = N) :
    Code.wp Yba.prog (dropSeq 17 (Yba.f3.body.getD .skip)) (bodyPost Yba.prog Yba.f3 (fun e w' => e = .returned (.bool true) ∧ Below w0.heap.size w0 w')) ⟨#[x0, x1, x2, x3, x4, x5, x6, x7, x8, .pointer (some ⟨sv, 0, none⟩), .pointer (some ⟨L, 0, none⟩), .pointer (some ⟨stg, 0, none⟩), .pointer (some ⟨exp, 0, none⟩), .int .i64 (N : Nat), .pointer none, x15, x16, x17, x18, x19, x20, x21, x22, x23, x24, x25, .pointer (some ⟨lb, 0, none⟩), .pointer (some ⟨tv, 0, none⟩), .pointer (some ⟨gv, 0, none⟩), .pointer (some ⟨av, 0, none⟩), .pointer (some ⟨lv, 0, none⟩), x31, x32, x33, x34, x35, x36, x37, x38, x39, x40, x41, x42, x43, x44, x45, x46, x47, x48, x49, x50, x51, x52, x53, x54, x55, x56, x57, x58, x59, x60, x61, x62, x63, x64, x65, x66, x67, x68, x69, x70, x71, x72, x73, x74, x75, x76, x77, x78, x79, x80, x81, x82, x83, x84, x85, x86, x87, x88, x89, x90, x91, x92, x93, x94, x95, x96, x97, x98, x99, x100, x101, x102, x103, x104, x105, x106, x107, x108, x109, x110, x111, x112, x113, x114, x115, x116, x117, x118, x119, x120, x121, x122, x123, x124, x125, x126, x127, x128, x129, x130, x131, x132, x133, x134, x135, x136, x137, x138, x139, x140, x141, x142, x143, x144, x145, x146, x147, x148, x149, x150, x151, x152, x153, x154, x155, x156, x157, x158, x159, x160, x161, x162, x163, x164, x165, x166, x167, x168, x169, x170, x171, x172, x173, x174, x175, x176, x177, x178, x179, x180, x181, x182, x183, x184, x185, x186, x187, x188, x189, x190, x191, x192, x193, x194, x195, x196, x197, x198, x199, x200, x201, x202, x203, x204, x205, x206, x207, x208, x209, x210, x211, x212, x213, x214, x215, x216, x217, x218, x219, x220, x221, x222, x223, x224, x225, x226, x227, x228, x229, x230, x231, x232, x233, x234, x235, x236, x237, x238, x239, x240, x241, x242, x243, x244, x245, x246, x247, x248, x249, x250, x251, x252, x253, x254, x255, x256, x257, x258, x259, x260, x261, x262, x263, x264, x265, x266, x267, x268, x269, x270, x271, x272, x273, x274, x275, x276, x277, x278, x279, x280, x281, x282, x283, x284, x285, x286, x287, x288, x289, x290, x291, x292, x293, x294, x295, x296, x297, x298, x299, x300, x301, x302, x303, x304, x305, x306, x307, x308, x309, x310, x311, x312, x313, x314, x315, x316, x317, x318, x319, x320, x321, x322, x323, x324, x325, x326, x327, x328, x329, x330, x331, x332, x333, x334, x335, x336, x337, x338, x339, x340, x341, x342, x343, x344, x345, x346, x347], []⟩ w := by
  have HL : Hid (∀ k b, st[k]? = some (some b) → look m (tk k) = some (.pointer (some ⟨b, 0, none⟩))) := hlk
  clear hlk
  obtain ⟨v, hl, hrow⟩ := hd.log
  obtain ⟨g, vc, rfl, r0, r1⟩ := row2 hrow
  clear hrow
  have l0 : w.cell? ⟨lb, 0, none⟩ = some (.slice (some ⟨g, 0, none⟩) 2 vc) := hl.cell? 0
  have l1 : w.cell? ⟨lv, 0, none⟩ = some (.pointer (some ⟨L, 0, none⟩)) := hd.hlv.cell? 0
  have l2 : w.cell? ⟨tv, 0, none⟩ = some (.int .i64 N) := hd.htv.cell? 0
  have l3 : w.cell? ⟨gv, 0, none⟩ = some (.int .i64 0) := hd.hgv.cell? 0
  have c0 : w.cell? ⟨sv, 0, none⟩ = some (.pointer (some ⟨S, 0, none⟩)) := hF.hsv.cell? 0
  have c9 : w.cell? ⟨S, 9, none⟩ = some (.pointer (some ⟨L, 0, none⟩)) := Blk.cell? hF.hS 9
  have c1 : w.cell? ⟨L, 1, none⟩ = some (.map (some tt)) := Blk.cell? hF.hT 1
  have hsm := same44 L
  conv => arg 2; whnf
  go_wp2_with fail
  go_quiet (fail)
  go_upto_if 272 with (first
    | (at_len; refine wpList_mlen _ rfl _ 65 rfl (hF.hm.drewN nq) Yba.underlying65 rfl ?_; rw [hN])
    | fail)
  go_cut [6] from 272 to 272 (fun _ wc => wc = w.drewN nq)
  case rest =>
    rename_i hk
    apply hk
    subst hcut
    exact phE2 sv S L gb stg exp av a tt na ra m gs st w0 (w.drewN nq) (hF.drewN nq) hst4 HL.out
  case first =>
  go_wp2_with fail
  go_meet
  rfl

set_option maxRecDepth 100000 in
set_option maxHeartbeats 2000000 in
theorem phE1_in (sv S L gb stg exp base lb lv tv gv av a tt na ra N : Nat) (m : Ents) (gs : List (List Nat)) (st : List (Option Nat)) (w0 w : World) {x0 x1 x2 x3 x4 x5 x6 x7 x8 x15 x16 x17 x18 x19 x20 x21 x22 x23 x24 x25 x31 x32 x33 x34 x35 x36 x37 x38 x39 x40 x41 x42 x43 x44 x45 x46 x47 x48 x49 x50 x51 x52 x53 x54 x55 x56 x57 x58 x59 x60 x61 x62 x63 x64 x65 x66 x67 x68 x69 x70 x71 x72 x73 x74 x75 x76 x77 x78 x79 x80 x81 x82 x83 x84 x85 x86 x87 x88 x89 x90 x91 x92 x93 x94 x95 x96 x97 x98 x99 x100 x101 x102 x103 x104 x105 x106 x107 x108 x109 x110 x111 x112 x113 x114 x115 x116 x117 x118 x119 x120 x121 x122 x123 x124 x125 x126 x127 x128 x129 x130 x131 x132 x133 x134 x135 x136 x137 x138 x139 x140 x141 x142 x143 x144 x145 x146 x147 x148 x149 x150 x151 x152 x153 x154 x155 x156 x157 x158 x159 x160 x161 x162 x163 x164 x165 x166 x167 x168 x169 x170 x171 x172 x173 x174 x175 x176 x177 x178 x179 x180 x181 x182 x183 x184 x185 x186 x187 x188 x189 x190 x191 x192 x193 x194 x195 x196 x197 x198 x199 x200 x201 x202 x203 x204 x205 x206 x207 x208 x209 x210 x211 x212 x213 x214 x215 x216 x217 x218 x219 x220 x221 x222 x223 x224 x225 x226 x227 x228 x229 x230 x231 x232 x233 x234 x235 x236 x237 x238 x239 x240 x241 x242 x243 x244 x245 x246 x247 x248 x249 x250 x251 x252 x253 x254 x255 x256 x257 x258 x259 x260 x261 x262 x263 x264 x265 x266 x267 x268 x269 x270 x271 x272 x273 x274 x275 x276 x277 x278 x279 x280 x281 x282 x283 x284 x285 x286 x287 x288 x289 x290 x291 x292 x293 x294 x295 x296 x297 x298 x299 x300 x301 x302 x303 x304 x305 x306 x307 x308 x309 x310 x311 x312 x313 x314 x315 x316 x317 x318 x319 x320 x321 x322 x323 x324 x325 x326 x327 x328 x329 x330 x331 x332 x333 x334 x335 x336 x337 x338 x339 x340 x341 x342 x343 x344 x345 x346 x347 : Value} (hF : FE w0 w sv S L gb stg exp av a tt na ra m gs st)
    (hst4 : st.length = 4) (hlk : ∀ k b, st[k]? = some (some b) → look m (tk k) = some (.pointer (some ⟨b, 0, none⟩))) (hd : Done w S L gb base lb lv tv gv av N (nks gs)) (hN : m.length = N) (D : Nat) (ed : Int) (c5 : w.cell? ⟨D, 5, none⟩ = some (.int .i64 ed)) (hed : ed ≤ 1024) :
    Code.wp Yba.prog (dropSeq 17 (Yba.f3.body.getD .skip)) (bodyPost Yba.prog Yba.f3 (fun e w' => e = .returned (.bool true) ∧ Below w0.heap.size w0 w')) ⟨#[x0, x1, x2, x3, x4, x5, x6, x7, x8, .pointer (some ⟨sv, 0, none⟩), .pointer (some ⟨L, 0, none⟩), .pointer (some ⟨stg, 0, none⟩), .pointer (some ⟨exp, 0, none⟩), .int .i64 (N : Nat), .pointer (some ⟨D, 0, none⟩), x15, x16, x17, x18, x19, x20, x21, x22, x23, x24, x25, .pointer (some ⟨lb, 0, none⟩), .pointer (some ⟨tv, 0, none⟩), .pointer (some ⟨gv, 0, none⟩), .pointer (some ⟨av, 0, none⟩), .pointer (some ⟨lv, 0, none⟩), x31, x32, x33, x34, x35, x36, x37, x38, x39, x40, x41, x42, x43, x44, x45, x46, x47, x48, x49, x50, x51, x52, x53, x54, x55, x56, x57, x58, x59, x60, x61, x62, x63, x64, x65, x66, x67, x68, x69, x70, x71, x72, x73, x74, x75, x76, x77, x78, x79, x80, x81, x82, x83, x84, x85, x86, x87, x88, x89, x90, x91, x92, x93, x94, x95, x96, x97, x98, x99, x100, x101, x102, x103, x104, x105, x106, x107, x108, x109, x110, x111, x112, x113, x114, x115, x116, x117, x118, x119, x120, x121, x122, x123, x124, x125, x126, x127, x128, x129, x130, x131, x132, x133, x134, x135, x136, x137, x138, x139, x140, x141, x142, x143, x144, x145, x146, x147, x148, x149, x150, x151, x152, x153, x154, x155, x156, x157, x158, x159, x160, x161, x162, x163, x164, x165, x166, x167, x168, x169, x170, x171, x172, x173, x174, x175, x176, x177, x178, x179, x180, x181, x182, x183, x184, x185, x186, x187, x188, x189, x190, x191, x192, x193, x194, x195, x196, x197, x198, x199, x200, x201, x202, x203, x204, x205, x206, x207, x208, x209, x210, x211, x212, x213, x214, x215, x216, x217, x218, x219, x220, x221, x222, x223, x224, x225, x226, x227, x228, x229, x230, x231, x232, x233, x234, x235, x236, x237, x238, x239, x240, x241, x242, x243, x244, x245, x246, x247, x248, x249, x250, x251, x252, x253, x254, x255, x256, x257, x258, x259, x260, x261, x262, x263, x264, x265, x266, x267, x268, x269, x270, x271, x272, x273, x274, x275, x276, x277, x278, x279, x280, x281, x282, x283, x284, x285, x286, x287, x288, x289, x290, x291, x292, x293, x294, x295, x296, x297, x298, x299, x300, x301, x302, x303, x304, x305, x306, x307, x308, x309, x310, x311, x312, x313, x314, x315, x316, x317, x318, x319, x320, x321, x322, x323, x324, x325, x326, x327, x328, x329, x330, x331, x332, x333, x334, x335, x336, x337, x338, x339, x340, x341, x342, x343, x344, x345, x346, x347], []⟩ w := by
  have HL : Hid (∀ k b, st[k]? = some (some b) → look m (tk k) = some (.pointer (some ⟨b, 0, none⟩))) := hlk
  clear hlk
  obtain ⟨v, hl, hrow⟩ := hd.log
  obtain ⟨g, vc, rfl, r0, r1⟩ := row2 hrow
  clear hrow
  have l0 : w.cell? ⟨lb, 0, none⟩ = some (.slice (some ⟨g, 0, none⟩) 2 vc) := hl.cell? 0
  have l1 : w.cell? ⟨lv, 0, none⟩ = some (.pointer (some ⟨L, 0, none⟩)) := hd.hlv.cell? 0
  have l2 : w.cell? ⟨tv, 0, none⟩ = some (.int .i64 N) := hd.htv.cell? 0
  have l3 : w.cell? ⟨gv, 0, none⟩ = some (.int .i64 0) := hd.hgv.cell? 0
  have c0 : w.cell? ⟨sv, 0, none⟩ = some (.pointer (some ⟨S, 0, none⟩)) := hF.hsv.cell? 0
  have c9 : w.cell? ⟨S, 9, none⟩ = some (.pointer (some ⟨L, 0, none⟩)) := Blk.cell? hF.hS 9
  have c1 : w.cell? ⟨L, 1, none⟩ = some (.map (some tt)) := Blk.cell? hF.hT 1
  have hsm := same44 L
  conv => arg 2; whnf
  go_wp2_with fail
  go_quiet (fail)
  go_upto_if 272 with (first
    | (at_len; refine wpList_mlen _ rfl _ 65 rfl (hF.hm.drewN nq) Yba.underlying65 rfl ?_; rw [hN])
    | fail)
  go_cut [6] from 272 to 272 (fun _ wc => wc = w.drewN nq)
  case rest =>
    rename_i hk
    apply hk
    subst hcut
    exact phE2 sv S L gb stg exp av a tt na ra m gs st w0 (w.drewN nq) (hF.drewN nq) hst4 HL.out
  case first =>
  go_wp2_with fail
  go_meet
  rfl

set_option maxRecDepth 100000 in
set_option maxHeartbeats 2000000 in
theorem phE1_copy (sv S L L' gb stg exp base lb lv tv gv av a tt na ra N : Nat) (m : Ents) (gs : List (List Nat)) (st : List (Option Nat)) (w0 w : World) {x0 x1 x2 x3 x4 x5 x6 x7 x8 x15 x16 x17 x18 x19 x20 x21 x22 x23 x24 x25 x31 x32 x33 x34 x35 x36 x37 x38 x39 x40 x41 x42 x43 x44 x45 x46 x47 x48 x49 x50 x51 x52 x53 x54 x55 x56 x57 x58 x59 x60 x61 x62 x63 x64 x65 x66 x67 x68 x69 x70 x71 x72 x73 x74 x75 x76 x77 x78 x79 x80 x81 x82 x83 x84 x85 x86 x87 x88 x89 x90 x91 x92 x93 x94 x95 x96 x97 x98 x99 x100 x101 x102 x103 x104 x105 x106 x107 x108 x109 x110 x111 x112 x113 x114 x115 x116 x117 x118 x119 x120 x121 x122 x123 x124 x125 x126 x127 x128 x129 x130 x131 x132 x133 x134 x135 x136 x137 x138 x139 x140 x141 x142 x143 x144 x145 x146 x147 x148 x149 x150 x151 x152 x153 x154 x155 x156 x157 x158 x159 x160 x161 x162 x163 x164 x165 x166 x167 x168 x169 x170 x171 x172 x173 x174 x175 x176 x177 x178 x179 x180 x181 x182 x183 x184 x185 x186 x187 x188 x189 x190 x191 x192 x193 x194 x195 x196 x197 x198 x199 x200 x201 x202 x203 x204 x205 x206 x207 x208 x209 x210 x211 x212 x213 x214 x215 x216 x217 x218 x219 x220 x221 x222 x223 x224 x225 x226 x227 x228 x229 x230 x231 x232 x233 x234 x235 x236 x237 x238 x239 x240 x241 x242 x243 x244 x245 x246 x247 x248 x249 x250 x251 x252 x253 x254 x255 x256 x257 x258 x259 x260 x261 x262 x263 x264 x265 x266 x267 x268 x269 x270 x271 x272 x273 x274 x275 x276 x277 x278 x279 x280 x281 x282 x283 x284 x285 x286 x287 x288 x289 x290 x291 x292 x293 x294 x295 x296 x297 x298 x299 x300 x301 x302 x303 x304 x305 x306 x307 x308 x309 x310 x311 x312 x313 x314 x315 x316 x317 x318 x319 x320 x321 x322 x323 x324 x325 x326 x327 x328 x329 x330 x331 x332 x333 x334 x335 x336 x337 x338 x339 x340 x341 x342 x343 x344 x345 x346 x347 : Value} (hF : FE w0 w sv S L' gb stg exp av a tt na ra m gs st)
    (hst4 : st.length = 4) (hlk : ∀ k b, st[k]? = some (some b) → look m (tk k) = some (.pointer (some ⟨b, 0, none⟩))) (hd : Done w S L' gb base lb lv tv gv av N (nks gs)) (hN : m.length = N) (D : Nat) (ed : Int) (c5 : w.cell? ⟨D, 5, none⟩ = some (.int .i64 ed)) (hed : ¬ ed ≤ 1024) (hne : L' ≠ L) (t : Nat) (hTo : Tab w L a t na ra) (hto : Mp w t []) :
    Code.wp Yba.prog (dropSeq 17 (Yba.f3.body.getD .skip)) (bodyPost Yba.prog Yba.f3 (fun e w' => e = .returned (.bool true) ∧ Below w0.heap.size w0 w')) ⟨#[x0, x1, x2, x3, x4, x5, x6, x7, x8, .pointer (some ⟨sv, 0, none⟩), .pointer (some ⟨L, 0, none⟩), .pointer (some ⟨stg, 0, none⟩), .pointer (some ⟨exp, 0, none⟩), .int .i64 (N : Nat), .pointer (some ⟨D, 0, none⟩), x15, x16, x17, x18, x19, x20, x21, x22, x23, x24, x25, .pointer (some ⟨lb, 0, none⟩), .pointer (some ⟨tv, 0, none⟩), .pointer (some ⟨gv, 0, none⟩), .pointer (some ⟨av, 0, none⟩), .pointer (some ⟨lv, 0, none⟩), x31, x32, x33, x34, x35, x36, x37, x38, x39, x40, x41, x42, x43, x44, x45, x46, x47, x48, x49, x50, x51, x52, x53, x54, x55, x56, x57, x58, x59, x60, x61, x62, x63, x64, x65, x66, x67, x68, x69, x70, x71, x72, x73, x74, x75, x76, x77, x78, x79, x80, x81, x82, x83, x84, x85, x86, x87, x88, x89, x90, x91, x92, x93, x94, x95, x96, x97, x98, x99, x100, x101, x102, x103, x104, x105, x106, x107, x108, x109, x110, x111, x112, x113, x114, x115, x116, x117, x118, x119, x120, x121, x122, x123, x124, x125, x126, x127, x128, x129, x130, x131, x132, x133, x134, x135, x136, x137, x138, x139, x140, x141, x142, x143, x144, x145, x146, x147, x148, x149, x150, x151, x152, x153, x154, x155, x156, x157, x158, x159, x160, x161, x162, x163, x164, x165, x166, x167, x168, x169, x170, x171, x172, x173, x174, x175, x176, x177, x178, x179, x180, x181, x182, x183, x184, x185, x186, x187, x188, x189, x190, x191, x192, x193, x194, x195, x196, x197, x198, x199, x200, x201, x202, x203, x204, x205, x206, x207, x208, x209, x210, x211, x212, x213, x214, x215, x216, x217, x218, x219, x220, x221, x222, x223, x224, x225, x226, x227, x228, x229, x230, x231, x232, x233, x234, x235, x236, x237, x238, x239, x240, x241, x242, x243, x244, x245, x246, x247, x248, x249, x250, x251, x252, x253, x254, x255, x256, x257, x258, x259, x260, x261, x262, x263, x264, x265, x266, x267, x268, x269, x270, x271, x272, x273, x274, x275, x276, x277, x278, x279, x280, x281, x282, x283, x284, x285, x286, x287, x288, x289, x290, x291, x292, x293, x294, x295, x296, x297, x298, x299, x300, x301, x302, x303, x304, x305, x306, x307, x308, x309, x310, x311, x312, x313, x314, x315, x316, x317, x318, x319, x320, x321, x322, x323, x324, x325, x326, x327, x328, x329, x330, x331, x332, x333, x334, x335, x336, x337, x338, x339, x340, x341, x342, x343, x344, x345, x346, x347], []⟩ w := by
  have HL : Hid (∀ k b, st[k]? = some (some b) → look m (tk k) = some (.pointer (some ⟨b, 0, none⟩))) := hlk
  clear hlk
  obtain ⟨v, hl, hrow⟩ := hd.log
  obtain ⟨g, vc, rfl, r0, r1⟩ := row2 hrow
  clear hrow
  have l0 : w.cell? ⟨lb, 0, none⟩ = some (.slice (some ⟨g, 0, none⟩) 2 vc) := hl.cell? 0
  have l1 : w.cell? ⟨lv, 0, none⟩ = some (.pointer (some ⟨L', 0, none⟩)) := hd.hlv.cell? 0
  have l2 : w.cell? ⟨tv, 0, none⟩ = some (.int .i64 N) := hd.htv.cell? 0
  have l3 : w.cell? ⟨gv, 0, none⟩ = some (.int .i64 0) := hd.hgv.cell? 0
  have c0 : w.cell? ⟨sv, 0, none⟩ = some (.pointer (some ⟨S, 0, none⟩)) := hF.hsv.cell? 0
  have c9 : w.cell? ⟨S, 9, none⟩ = some (.pointer (some ⟨L', 0, none⟩)) := Blk.cell? hF.hS 9
  have c1 : w.cell? ⟨L', 1, none⟩ = some (.map (some tt)) := Blk.cell? hF.hT 1
  have hsm := same44 L'
  have c2 : w.cell? ⟨L, 1, none⟩ = some (.map (some t)) := Blk.cell? hTo 1
  have hot : ∀ k, (binOp .eql 44 (.pointer (some ⟨L', 0, none⟩)) (.pointer (some ⟨L, 0, none⟩))).run Yba.prog (w.drewN k) = .ok (.bool false) (w.drewN k) := fun k => other44 (w := w.drewN k) hF.hT hTo hne
  have hlen0 : ∀ k, (Builtin.len_ #[65] 3 #[.map (some t)]).run Yba.prog (w.drewN k) = .ok (.int .i64 0) (w.drewN k) := fun k => (hto.drewN k).len Yba.underlying65 3
  conv => arg 2; whnf
  go_wp2_with fail
  go_quiet (fail)
  go_upto_if 272 with (first
    | (at_len; refine wpList_mlen _ rfl _ 65 rfl (hF.hm.drewN nq) Yba.underlying65 rfl ?_; rw [hN])
    | fail)
  go_cut [6] from 272 to 272 (fun _ wc => wc = w.drewN nq)
  case rest =>
    rename_i hk
    apply hk
    subst hcut
    exact phE2 sv S L' gb stg exp av a tt na ra m gs st w0 (w.drewN nq) (hF.drewN nq) hst4 HL.out
  case first =>
  go_wp2_with fail
  go_meet
  rfl
end Go.Proofs.Ybulkuvc
