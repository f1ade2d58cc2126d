/- LawS1042CRemoves, its fifth part: what it looks at. -/
import Derived.Test.YbulkuocRemD
namespace Go.Proofs.Ybulkuoc
open Go.RowKit

set_option maxRecDepth 100000 in
set_option maxHeartbeats 4000000 in
theorem phE (a0 : Option Addr) (len cap : Nat) (s : Nat) (m i : Int) (up : Bool) (w0 : World) (hlen : len ≤ 1024)
    (R T L E mm xx k : Nat) (Wb : Nat → Nat) (rc tc : Array Value) (gl el : List Nat) (w : World) {x5 x6 x7 x8 x9 x12 x13 x14 x15 x16 x19 x20 x21 x23 x24 x25 x28 x29 x30 x31 x32 x33 x34 x35 x36 x37 x38 x39 x40 x41 x42 x43 x44 x45 x46 x47 x48 x49 x50 x51 x52 x53 x54 x55 x56 x57 x58 x59 x60 x61 x62 x63 x64 x65 x66 x67 x68 x69 x70 x71 x72 x73 x74 x75 x76 x77 x78 x79 x80 x81 x82 x83 x84 x85 x86 x87 x88 x89 x90 x91 x92 x93 x94 x95 x96 x97 x98 x99 x100 x101 x102 x103 x104 x105 x106 x107 x108 x109 x110 x111 x112 x113 x114 x115 x116 x117 x118 x119 x120 x121 x122 x123 x124 x125 x126 x127 x128 x129 x130 x131 x132 x133 x134 x135 x136 x137 x138 x139 x140 x141 x142 x143 x144 x145 x146 x147 x148 x149 x150 x151 x152 x153 x154 x155 x156 x157 x158 x159 x160 x161 x162 x163 x164 x165 x166 x167 x168 x169 x170 x171 x172 x173 x174 x175 x176 x177 x178 x179 x180 x181 x182 x183 x184 x185 x186 x187 x188 x189 x190 x191 x192 x193 x194 x195 x196 x197 x198 x199 x200 x201 x202 x203 x204 x205 x206 x207 x208 x209 x210 x211 x212 x213 x214 x215 x216 x217 x218 x219 x220 x221 x222 x223 x224 x225 x226 x227 x228 x229 x230 x231 x232 x233 x234 x235 x236 x237 x238 x239 x240 x241 x242 x243 x244 x245 x246 x247 x248 x249 x250 x251 x252 x253 x254 x255 x256 x257 x258 x259 x260 x261 x262 x263 x264 x265 x266 x267 x268 x269 x270 x271 x272 x273 x274 x275 x276 x277 x278 x279 x280 x281 x282 x283 x284 x285 x286 x287 x288 x289 x290 x291 x292 x293 x294 x295 x296 x297 x298 x299 x300 x301 x302 x303 x304 x305 x306 x307 x308 : Value} (hmm : mm < 3) (hxx : xx < 2) (_hk : k < len + 1) (hbl : Below w0.heap.size w0 w) (hF : FinIs w R T L E len mm xx k up Wb rc tc gl el) :
    Code.wp Yba.prog (dropSeq 23 (Yba.f7.body.getD .skip)) (bodyPost Yba.prog Yba.f7 (fun e w' => e = .returned (.bool true) ∧ Below w0.heap.size w0 w')) ⟨#[.slice a0 len cap, .int .u8 (s : Nat), .int .u8 m, .int .u8 i, .bool up, x5, x6, x7, x8, x9, .bool false, .int .i64 (len + 1), x12, x13, x14, x15, x16, .int .u8 (mm : Nat), .int .i64 (xx : Nat), x19, x20, x21, .pointer (some ⟨R, 0, none⟩), x23, x24, x25, .int .i64 (k : Nat), .slice (some ⟨E, 0, none⟩) len len, x28, x29, x30, x31, x32, x33, x34, x35, x36, x37, x38, x39, x40, x41, x42, x43, x44, x45, x46, x47, x48, x49, x50, x51, x52, x53, x54, x55, x56, x57, x58, x59, x60, x61, x62, x63, x64, x65, x66, x67, x68, x69, x70, x71, x72, x73, x74, x75, x76, x77, x78, x79, x80, x81, x82, x83, x84, x85, x86, x87, x88, x89, x90, x91, x92, x93, x94, x95, x96, x97, x98, x99, x100, x101, x102, x103, x104, x105, x106, x107, x108, x109, x110, x111, x112, x113, x114, x115, x116, x117, x118, x119, x120, x121, x122, x123, x124, x125, x126, x127, x128, x129, x130, x131, x132, x133, x134, x135, x136, x137, x138, x139, x140, x141, x142, x143, x144, x145, x146, x147, x148, x149, x150, x151, x152, x153, x154, x155, x156, x157, x158, x159, x160, x161, x162, x163, x164, x165, x166, x167, x168, x169, x170, x171, x172, x173, x174, x175, x176, x177, x178, x179, x180, x181, x182, x183, x184, x185, x186, x187, x188, x189, x190, x191, x192, x193, x194, x195, x196, x197, x198, x199, x200, x201, x202, x203, x204, x205, x206, x207, x208, x209, x210, x211, x212, x213, x214, x215, x216, x217, x218, x219, x220, x221, x222, x223, x224, x225, x226, x227, x228, x229, x230, x231, x232, x233, x234, x235, x236, x237, x238, x239, x240, x241, x242, x243, x244, x245, x246, x247, x248, x249, x250, x251, x252, x253, x254, x255, x256, x257, x258, x259, x260, x261, x262, x263, x264, x265, x266, x267, x268, x269, x270, x271, x272, x273, x274, x275, x276, x277, x278, x279, x280, x281, x282, x283, x284, x285, x286, x287, x288, x289, x290, x291, x292, x293, x294, x295, x296, x297, x298, x299, x300, x301, x302, x303, x304, x305, x306, x307, x308], []⟩ w := by
  have HF : Hid (FinIs w R T L E len mm xx k up Wb rc tc gl el) := hF
  clear hF
  have c3 := HF.out.r.cell HF.out.r3
  have c5 : ∀ j, j < 4 → w.cell? ⟨R, 5 + j, none⟩ = some (.slice (some ⟨Wb j, 0, none⟩) 2 2) := fun j hj => HF.out.r.cell (HF.out.r5 j hj)
  have HC5 : Hid (∀ j, j < 4 → w.cell? ⟨R, 5 + j, none⟩ = some (.slice (some ⟨Wb j, 0, none⟩) 2 2)) := c5
  clear c5
  have hxi : (xx : Int) < 2 := by omega
  have hmi : (mm : Int) < 3 := by omega
  conv => arg 2; whnf
  go_upto_if 186 with fail
  go_cut [28] from 187 to 202 (fun v w1 => v = .slice (some ⟨L, 0, none⟩) len (len + 1) ∧ w1 = w)
  case first =>
    cases up with
    | true =>
      have d5 : w.cell? ⟨R, 8, none⟩ = some (.slice (some ⟨Wb 3, 0, none⟩) 2 2) := HC5.out 3 (by omega)
      have d6 : w.cell? ⟨Wb 3, xx, none⟩ = some (.slice (some ⟨L, 0, none⟩) len (len + 1)) := (HF.out.ws 3 (by omega)).cell (by rcases (show xx = 0 ∨ xx = 1 from by omega) with rfl | rfl <;> (rw [wcellv_hit (by simp)]; rfl))
      go_wp2_with fail
      go_meet
      exact ⟨rfl, rfl⟩
    | false =>
      have d5 : w.cell? ⟨R, 5 + mm, none⟩ = some (.slice (some ⟨Wb mm, 0, none⟩) 2 2) := HC5.out mm (by omega)
      have d6 : w.cell? ⟨Wb mm, xx, none⟩ = some (.slice (some ⟨L, 0, none⟩) len (len + 1)) := (HF.out.ws mm (by omega)).cell (by rcases (show xx = 0 ∨ xx = 1 from by omega) with rfl | rfl <;> (rw [wcellv_hit (by simp)]; rfl))
      go_wp2_with fail
      go_meet
      exact ⟨rfl, rfl⟩
  case rest =>
    obtain ⟨hv, hw⟩ := hcut
    subst hv
    subst hw
    rename_i hkk
    apply hkk
    go_wp2_with fail
    go_loop [210] (fun q => ∃ j : Nat, j ≤ len ∧ q = .int .i64 j) (fun q => len - (intOf q).toNat)
    case atStart => exact ⟨0, Nat.zero_le _, rfl⟩
    case round =>
      obtain ⟨j, hj, rfl⟩ := hrel
      by_cases hjl : j < len
      · obtain ⟨v, hv, hvn⟩ := HF.out.gb j hjl
        have e1 : wc.cell? ⟨L, j, none⟩ = some (.int .i64 v) := HF.out.l.cell (ints_at hv)
        have e2 : wc.cell? ⟨E, j, none⟩ = some (.int .i64 v) := HF.out.e.cell (ints_at ((HF.out.same j hjl).trans hv))
        have e3 : wc.cell? ⟨T, v * 9 + 7, none⟩ = some (.int .i64 j) := HF.out.t.cell (HF.out.place j v hjl hv)
        have e4 : (v : Int) < (len : Int) + 1 := by omega
        clear hv
        go_wp2_with fail
        go_round
        case rel => exact ⟨j + 1, by omega, by go_num⟩
        case measure => simp [intOf]; omega
      · go_wp2_with fail
        go_loop [31] (fun q => ∃ v : Nat, v ≤ len + 1 ∧ q = .int .i64 v) (fun q => len + 1 - (intOf q).toNat)
        case atStart => exact ⟨0, Nat.zero_le _, rfl⟩
        case round =>
          obtain ⟨v, hv, rfl⟩ := hrel
          by_cases hvl : v < len + 1
          · have e3 : wc.cell? ⟨T, v * 9 + 1, none⟩ = some (.int .u8 (if v = k then 0 else 1)) := HF.out.t.cell (HF.out.stat v hvl)
            have e4 : (v : Int) < (len : Int) + 1 := by omega
            by_cases hvk : v = k
            · have e5 : ((v : Int) == (k : Int)) = true := by simp [hvk]
              rw [if_pos hvk] at e3
              have HK : Hid (v = k) := hvk
              clear hvk
              go_wp2_with fail
              go_round
              case rel => exact ⟨v + 1, by omega, by go_num⟩
              case measure => simp [intOf]; omega
            · have e5 : ((v : Int) == (k : Int)) = false := by simp; omega
              rw [if_neg hvk] at e3
              clear hvk
              go_wp2_with fail
              go_round
              case rel => exact ⟨v + 1, by omega, by go_num⟩
              case measure => simp [intOf]; omega
          · go_wp2_with fail
            go_loop [32, 33] (fun q _ => ∃ j : Nat, j ≤ 3 ∧ q = .int .i64 j) (fun q _ => 3 - (intOf q).toNat)
            case atStart => exact ⟨0, by omega, rfl⟩
            case round =>
              obtain ⟨j, hj, rfl⟩ := hrel
              by_cases hj3 : j < 3
              · have e3 : (j : Int) < 3 := by omega
                go_wp2_with fail
                go_loop [33] (fun q => ∃ z : Nat, z ≤ 2 ∧ q = .int .i64 z) (fun q => 2 - (intOf q).toNat)
                case atStart => exact ⟨0, by omega, rfl⟩
                case round =>
                  obtain ⟨z, hz, rfl⟩ := hrel
                  by_cases hz2 : z < 2
                  · have e4 : (z : Int) < 2 := by omega
                    have d5 := HC5.out j (by omega)
                    have hcell : ¬ ((if up = true then j = 3 else j = mm) ∧ z = xx) → wc.cell? ⟨Wb j, z, none⟩ = some (.slice none 0 0) := fun hn => (HF.out.ws j (by omega)).cell (by rcases (show z = 0 ∨ z = 1 from by omega) with rfl | rfl <;> exact congrArg some (if_neg hn))
                    cases up with
                    | true =>
                      have d6 := hcell (by simp; omega)
                      clear hcell
                      go_wp2_with fail
                      go_round
                      case rel => exact ⟨z + 1, by omega, by go_num⟩
                      case measure => simp [intOf]; omega
                    | false =>
                      by_cases hjm : j = mm
                      · subst hjm
                        by_cases hzx : z = xx
                        · subst hzx
                          clear hcell
                          go_wp2_with fail
                          go_round
                          case rel => exact ⟨z + 1, by omega, by go_num⟩
                          case measure => simp [intOf]; omega
                        · have d6 := hcell (by simp; exact hzx)
                          have e5 : ((z : Int) == (xx : Int)) = false := by simp; omega
                          clear hcell
                          go_wp2_with fail
                          go_round
                          case rel => exact ⟨z + 1, by omega, by go_num⟩
                          case measure => simp [intOf]; omega
                      · have d6 := hcell (by simp; omega)
                        have e5 : ((j : Int) == (mm : Int)) = false := by simp; omega
                        have e6 : ¬ (j : Int) = (mm : Int) := by omega
                        clear hcell
                        go_wp2_with fail
                        go_round
                        case rel => exact ⟨z + 1, by omega, by go_num⟩
                        case measure => simp [intOf]; omega
                  · go_wp2_with fail
                    go_round
                    case rel => exact ⟨j + 1, by omega, by go_num⟩
                    case measure => simp [intOf]; omega
              · go_wp2_with fail
                go_loop [34] (fun q => ∃ z : Nat, z ≤ 2 ∧ q = .int .i64 z) (fun q => 2 - (intOf q).toNat)
                case atStart => exact ⟨0, by omega, rfl⟩
                case round =>
                  obtain ⟨z, hz, rfl⟩ := hrel
                  by_cases hz2 : z < 2
                  · have e4 : (z : Int) < 2 := by omega
                    have d5 : wc.cell? ⟨R, 8, none⟩ = some (.slice (some ⟨Wb 3, 0, none⟩) 2 2) := HC5.out 3 (by omega)
                    have hcell : ¬ ((if up = true then 3 = 3 else 3 = mm) ∧ z = xx) → wc.cell? ⟨Wb 3, z, none⟩ = some (.slice none 0 0) := fun hn => (HF.out.ws 3 (by omega)).cell (by rcases (show z = 0 ∨ z = 1 from by omega) with rfl | rfl <;> exact congrArg some (if_neg hn))
                    cases up with
                    | true =>
                      by_cases hzx : z = xx
                      · subst hzx
                        clear hcell
                        go_wp2_with fail
                        go_round
                        case rel => exact ⟨z + 1, by omega, by go_num⟩
                        case measure => simp [intOf]; omega
                      · have d6 := hcell (by simp; exact hzx)
                        have e5 : ((z : Int) == (xx : Int)) = false := by simp; omega
                        clear hcell
                        go_wp2_with fail
                        go_round
                        case rel => exact ⟨z + 1, by omega, by go_num⟩
                        case measure => simp [intOf]; omega
                    | false =>
                      have d6 := hcell (by simp; omega)
                      clear hcell
                      go_wp2_with fail
                      go_round
                      case rel => exact ⟨z + 1, by omega, by go_num⟩
                      case measure => simp [intOf]; omega
                  · go_wp2_with fail
                    go_ret
                    exact ⟨rfl, hbl⟩

end Go.Proofs.Ybulkuoc
