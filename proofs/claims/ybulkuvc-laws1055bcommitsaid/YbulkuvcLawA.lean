/- LawS1055BCommit, its first part: the guards. -/
import Derived.Test.YbulkuvcStage
import Derived.Deep.MidRow
import Derived.Deep.CutBlock
namespace Go.Proofs.Ybulkuvc
open Go.RowKit Go.Maps Go.WideMaps
def dropSeq : Nat → Code → Code
  | 0, c => c
  | k + 1, .seq _ b => dropSeq k b
  | _ + 1, c => c

/-- The bytes of a role, as the input holds them; the roles of a tenant; the tenants. -/
def BytesIn (w : World) (ga : Option Addr) (gl : Nat) : Prop := ∀ k, k < gl → ∃ b off, ∃ z : Nat, ga = some ⟨b, off, none⟩ ∧ b < w.heap.size ∧ w.cell? ⟨b, off + k, none⟩ = some (.int .u8 z) ∧ z < 256
def RolesIn (w : World) (ra : Option Addr) (rl : Nat) : Prop := ∀ i, i < rl → ∃ b off ga gl gc, ra = some ⟨b, off, none⟩ ∧ b < w.heap.size ∧ w.cell? ⟨b, off + i, none⟩ = some (.slice ga gl gc) ∧ BytesIn w ga gl
def RolesOk (w : World) (ra : Option Addr) (rl : Nat) : Prop := ∀ i, i < rl → ∃ b off ga gl gc, ra = some ⟨b, off, none⟩ ∧ b < w.heap.size ∧ w.cell? ⟨b, off + i, none⟩ = some (.slice ga gl gc) ∧ BytesIn w ga gl ∧ gl ≤ 256
def TsIn (w : World) (a0 : Option Addr) (len : Nat) : Prop := ∀ j, j < len → ∃ b off, ∃ z : Nat, ∃ ra rl rc, a0 = some ⟨b, off, none⟩ ∧ b < w.heap.size ∧ w.cell? ⟨b, off + j * 2, none⟩ = some (.int .u8 z) ∧ z < 256 ∧ w.cell? ⟨b, off + j * 2 + 1, none⟩ = some (.slice ra rl rc) ∧ RolesIn w ra rl
def TsOk (w : World) (a0 : Option Addr) (len : Nat) : Prop := ∀ j, j < len → ∃ b off, ∃ z : Nat, ∃ ra rl rc, a0 = some ⟨b, off, none⟩ ∧ b < w.heap.size ∧ w.cell? ⟨b, off + j * 2, none⟩ = some (.int .u8 z) ∧ z < 256 ∧ w.cell? ⟨b, off + j * 2 + 1, none⟩ = some (.slice ra rl rc) ∧ RolesOk w ra rl ∧ rl ≤ 256

set_option maxRecDepth 100000 in
set_option maxHeartbeats 2000000 in
theorem phA (a0 : Option Addr) (len cap : Nat) (ed : Int) (nod : Bool) (w0 : World) (hc : TsIn w0 a0 len)
    (hB : ∀ (w : World) {x3 x4 x5 x6 x7 x8 x9 x10 x11 x12 x13 x14 x15 x16 x17 x18 x19 x20 x21 x22 x23 x24 x25 x26 x27 x28 x29 x30 x31 x32 x33 x34 x35 x36 x37 x38 x39 x40 x41 x42 x43 x44 x45 x46 x47 x48 x49 x50 x51 x52 x53 x54 x55 x56 x57 x58 x59 x60 x61 x62 x63 x64 x65 x66 x67 x68 x69 x70 x71 x72 x73 x74 x75 x76 x77 x78 x79 x80 x81 x82 x83 x84 x85 x86 x87 x88 x89 x90 x91 x92 x93 x94 x95 x96 x97 x98 x99 x100 x101 x102 x103 x104 x105 x106 x107 x108 x109 x110 x111 x112 x113 x114 x115 x116 x117 x118 x119 x120 x121 x122 x123 x124 x125 x126 x127 x128 x129 x130 x131 x132 x133 x134 x135 x136 x137 x138 x139 x140 x141 x142 x143 x144 x145 x146 x147 x148 x149 x150 x151 x152 x153 x154 x155 x156 x157 x158 x159 x160 x161 x162 x163 x164 x165 x166 x167 x168 x169 x170 x171 x172 x173 x174 x175 x176 x177 x178 x179 x180 x181 x182 x183 x184 x185 x186 x187 x188 x189 x190 x191 x192 x193 x194 x195 x196 x197 x198 x199 x200 x201 x202 x203 x204 x205 x206 x207 x208 x209 x210 x211 x212 x213 x214 x215 x216 x217 x218 x219 x220 x221 x222 x223 x224 x225 x226 x227 x228 x229 x230 x231 x232 x233 x234 x235 x236 x237 x238 x239 x240 x241 x242 x243 x244 x245 x246 x247 x248 x249 x250 x251 x252 x253 x254 x255 x256 x257 x258 x259 x260 x261 x262 x263 x264 x265 x266 x267 x268 x269 x270 x271 x272 x273 x274 x275 x276 x277 x278 x279 x280 x281 x282 x283 x284 x285 x286 x287 x288 x289 x290 x291 x292 x293 x294 x295 x296 x297 x298 x299 x300 x301 x302 x303 x304 x305 x306 x307 x308 x309 x310 x311 x312 x313 x314 x315 x316 x317 x318 x319 x320 x321 x322 x323 x324 x325 x326 x327 x328 x329 x330 x331 x332 x333 x334 x335 x336 x337 x338 x339 x340 x341 x342 x343 x344 x345 x346 x347 : Value}, w = w0 → len ≤ 256 → TsOk w0 a0 len → Code.wp Yba.prog (dropSeq 3 (Yba.f3.body.getD .skip)) (bodyPost Yba.prog Yba.f3 (fun e w' => e = .returned (.bool true) ∧ Below w0.heap.size w0 w')) ⟨#[.slice a0 len cap, .int .u16 ed, .bool nod, x3, x4, x5, x6, x7, x8, x9, x10, x11, x12, x13, x14, x15, x16, x17, x18, x19, x20, x21, x22, x23, x24, x25, x26, x27, x28, x29, x30, x31, x32, x33, x34, x35, x36, x37, x38, x39, x40, x41, x42, x43, x44, x45, x46, x47, x48, x49, x50, x51, x52, x53, x54, x55, x56, x57, x58, x59, x60, x61, x62, x63, x64, x65, x66, x67, x68, x69, x70, x71, x72, x73, x74, x75, x76, x77, x78, x79, x80, x81, x82, x83, x84, x85, x86, x87, x88, x89, x90, x91, x92, x93, x94, x95, x96, x97, x98, x99, x100, x101, x102, x103, x104, x105, x106, x107, x108, x109, x110, x111, x112, x113, x114, x115, x116, x117, x118, x119, x120, x121, x122, x123, x124, x125, x126, x127, x128, x129, x130, x131, x132, x133, x134, x135, x136, x137, x138, x139, x140, x141, x142, x143, x144, x145, x146, x147, x148, x149, x150, x151, x152, x153, x154, x155, x156, x157, x158, x159, x160, x161, x162, x163, x164, x165, x166, x167, x168, x169, x170, x171, x172, x173, x174, x175, x176, x177, x178, x179, x180, x181, x182, x183, x184, x185, x186, x187, x188, x189, x190, x191, x192, x193, x194, x195, x196, x197, x198, x199, x200, x201, x202, x203, x204, x205, x206, x207, x208, x209, x210, x211, x212, x213, x214, x215, x216, x217, x218, x219, x220, x221, x222, x223, x224, x225, x226, x227, x228, x229, x230, x231, x232, x233, x234, x235, x236, x237, x238, x239, x240, x241, x242, x243, x244, x245, x246, x247, x248, x249, x250, x251, x252, x253, x254, x255, x256, x257, x258, x259, x260, x261, x262, x263, x264, x265, x266, x267, x268, x269, x270, x271, x272, x273, x274, x275, x276, x277, x278, x279, x280, x281, x282, x283, x284, x285, x286, x287, x288, x289, x290, x291, x292, x293, x294, x295, x296, x297, x298, x299, x300, x301, x302, x303, x304, x305, x306, x307, x308, x309, x310, x311, x312, x313, x314, x315, x316, x317, x318, x319, x320, x321, x322, x323, x324, x325, x326, x327, x328, x329, x330, x331, x332, x333, x334, x335, x336, x337, x338, x339, x340, x341, x342, x343, x344, x345, x346, x347], []⟩ w) :
    Calls Yba.prog 3 #[.slice a0 len cap, .int .u16 ed, .bool nod] w0 fun e w' => e = .returned (.bool true) ∧ Below w0.heap.size w0 w' := by
  have HC : Hid (TsIn w0 a0 len) := hc
  have HB := show Hid _ from hB
  clear hc hB
  go_enter Yba.func3, Yba.ntmps3
  by_cases hlen : len ≤ 256
  · have hgt : ¬ (256 < (len : Int)) := by omega
    go_upto_block 0 with fail
    go_cut [7, 8, 43] from 44 to 73 (fun _ _ _ wc => wc = w0 ∧ TsOk w0 a0 len)
    case rest =>
      obtain ⟨hw, hok⟩ := hcut
      rename_i hk
      apply hk
      exact HB.out wc hw hlen hok
    case first =>
    go_wp2_with fail
    go_loopw [43] (fun q wr => wr = w0 ∧ ∃ j : Nat, j ≤ len ∧ q = .int .i64 j ∧ TsOk w0 a0 j) (fun q _ => len - (intOf q).toNat)
    case atStart => exact ⟨rfl, 0, Nat.zero_le _, rfl, fun j hj => absurd hj (Nat.not_lt_zero _)⟩
    case round =>
      obtain ⟨hwr, j, hj, rfl, hok⟩ := hrel
      replace hwr := hwr.symm
      subst hwr
      have HOK : Hid (TsOk w0 a0 j) := hok
      clear hok
      by_cases hjl : j < len
      · obtain ⟨b, off, z, ra, rl, rc, rfl, hbl, c0, hz, c1, hro⟩ := HC.out j hjl
        have HR : Hid (RolesIn w0 ra rl) := hro
        clear hro
        have hjl' : (j : Int) < (len : Int) := by omega
        by_cases hrl : rl ≤ 256
        · have hrl' : ¬ (256 < (rl : Int)) := by omega
          go_wp2_with fail
          go_loopw [59] (fun q wr => wr = w0 ∧ ∃ i : Nat, i ≤ rl ∧ q = .int .i64 i ∧ RolesOk w0 ra i) (fun q _ => rl - (intOf q).toNat)
          case atStart => exact ⟨rfl, 0, Nat.zero_le _, rfl, fun j hj => absurd hj (Nat.not_lt_zero _)⟩
          case round =>
            obtain ⟨hwr2, i, hi, rfl, hok⟩ := hrel
            replace hwr2 := hwr2.symm
            subst hwr2
            have HOK2 : Hid (RolesOk w0 ra i) := hok
            clear hok
            by_cases hil : i < rl
            · obtain ⟨b2, off2, ga, gl, gc, rfl, hbl2, d0, hby⟩ := HR.out i hil
              have hil' : (i : Int) < (rl : Int) := by omega
              by_cases hgl : gl ≤ 256
              · have hgl' : ¬ (256 < (gl : Int)) := by omega
                have HBY : Hid (BytesIn w0 ga gl) := hby
                clear hby
                go_wp2_with fail
                go_roundw
                case rel =>
                  refine ⟨trivial, i + 1, by omega, by go_num, ?_⟩
                  intro i' hi'
                  by_cases e : i' = i
                  · subst e
                    exact ⟨b2, off2, ga, gl, gc, rfl, hbl2, d0, HBY.out, hgl⟩
                  · exact HOK2.out i' (by omega)
                case measure => simp [intOf]; omega
              · have hgl' : 256 < (gl : Int) := by omega
                go_wp2_with fail
                go_ret
                exact ⟨rfl, Below.refl _ _⟩
            · have hil' : ¬ ((i : Int) < (rl : Int)) := by omega
              go_wp2_with fail
              go_roundw
              case rel =>
                refine ⟨trivial, j + 1, by omega, by go_num, ?_⟩
                intro j' hj'
                by_cases e : j' = j
                · subst e
                  have hirl : i = rl := by omega
                  exact ⟨b, off, z, ra, rl, rc, rfl, hbl, c0, hz, c1, hirl ▸ HOK2.out, hrl⟩
                · exact HOK.out j' (by omega)
              case measure => simp [intOf]; omega
        · have hrl' : 256 < (rl : Int) := by omega
          go_wp2_with fail
          go_ret
          exact ⟨rfl, Below.refl _ _⟩
      · have hjl' : ¬ ((j : Int) < (len : Int)) := by omega
        go_wp2_with fail
        go_meet
        have hjlen : j = len := by omega
        exact ⟨rfl, hjlen ▸ HOK.out⟩
  · have hgt : 256 < (len : Int) := by omega
    go_wp2_with fail
    go_ret
    exact ⟨rfl, Below.refl _ _⟩
end Go.Proofs.Ybulkuvc
