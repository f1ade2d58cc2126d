/- LawS1055BCommit: the set-up and the tenants. -/
import Derived.Test.YbulkuvcLawT
import Derived.Test.YbulkuvcLawDi
import Derived.Test.YbulkuvcLawDc
namespace Go.Proofs.Ybulkuvc
open Go.RowKit Go.Maps Go.WideMaps

theorem Drf.setEdits {w : World} {n : Nat} {ed : Int} {v : Value} {m : Ents} {gs : List (List Nat)} (h : Drf w n ed v m gs) (e : Int) : Drf (w.setCell ⟨n + 14, 5, none⟩ (.int .i64 e)) n e v m gs := by
  have hf : Fr w (w.setCell ⟨n + 14, 5, none⟩ (.int .i64 e)) (fun k => k = n + 14) := Fr.setCell (Fr.refl w _) (fun _ => Eq.refl (n + 14)) _
  exact ⟨h.hD.edits e, h.p0.keep hf (by omega), h.p1.keep hf (by omega), h.p2.keep hf (by omega), h.p3.keep hf (by omega), h.now.keep hf (fun g cs ty hty hb => hb.ne h.hD (by rcases hty with h | h <;> rw [h] <;> decide))⟩

set_option maxRecDepth 100000 in
set_option maxHeartbeats 3200000 in
theorem phB (a0 : Option Addr) (len cap ed n : Nat) (nod : Bool) (w0 : World) {x3 x4 x5 x6 x7 x8 x9 x10 x11 x12 x13 x14 x15 x16 x17 x18 x19 x20 x21 x22 x23 x24 x25 x26 x27 x28 x29 x30 x31 x32 x33 x34 x35 x36 x37 x38 x39 x40 x41 x42 x43 x44 x45 x46 x47 x48 x49 x50 x51 x52 x53 x54 x55 x56 x57 x58 x59 x60 x61 x62 x63 x64 x65 x66 x67 x68 x69 x70 x71 x72 x73 x74 x75 x76 x77 x78 x79 x80 x81 x82 x83 x84 x85 x86 x87 x88 x89 x90 x91 x92 x93 x94 x95 x96 x97 x98 x99 x100 x101 x102 x103 x104 x105 x106 x107 x108 x109 x110 x111 x112 x113 x114 x115 x116 x117 x118 x119 x120 x121 x122 x123 x124 x125 x126 x127 x128 x129 x130 x131 x132 x133 x134 x135 x136 x137 x138 x139 x140 x141 x142 x143 x144 x145 x146 x147 x148 x149 x150 x151 x152 x153 x154 x155 x156 x157 x158 x159 x160 x161 x162 x163 x164 x165 x166 x167 x168 x169 x170 x171 x172 x173 x174 x175 x176 x177 x178 x179 x180 x181 x182 x183 x184 x185 x186 x187 x188 x189 x190 x191 x192 x193 x194 x195 x196 x197 x198 x199 x200 x201 x202 x203 x204 x205 x206 x207 x208 x209 x210 x211 x212 x213 x214 x215 x216 x217 x218 x219 x220 x221 x222 x223 x224 x225 x226 x227 x228 x229 x230 x231 x232 x233 x234 x235 x236 x237 x238 x239 x240 x241 x242 x243 x244 x245 x246 x247 x248 x249 x250 x251 x252 x253 x254 x255 x256 x257 x258 x259 x260 x261 x262 x263 x264 x265 x266 x267 x268 x269 x270 x271 x272 x273 x274 x275 x276 x277 x278 x279 x280 x281 x282 x283 x284 x285 x286 x287 x288 x289 x290 x291 x292 x293 x294 x295 x296 x297 x298 x299 x300 x301 x302 x303 x304 x305 x306 x307 x308 x309 x310 x311 x312 x313 x314 x315 x316 x317 x318 x319 x320 x321 x322 x323 x324 x325 x326 x327 x328 x329 x330 x331 x332 x333 x334 x335 x336 x337 x338 x339 x340 x341 x342 x343 x344 x345 x346 x347 : Value} (hn : w0.heap.size = n) (hlen : len ≤ 256) (hed : ed < 65536) (hok : TsOk w0 a0 len) :
    Code.wp Yba.prog (dropSeq 3 (Yba.f3.body.getD .skip)) (bodyPost Yba.prog Yba.f3 (fun e w' => e = .returned (.bool true) ∧ Below w0.heap.size w0 w')) ⟨#[.slice a0 len cap, .int .u16 (ed : Nat), .bool nod, x3, x4, x5, x6, x7, x8, x9, x10, x11, x12, x13, x14, x15, x16, x17, x18, x19, x20, x21, x22, x23, x24, x25, x26, x27, x28, x29, x30, x31, x32, x33, x34, x35, x36, x37, x38, x39, x40, x41, x42, x43, x44, x45, x46, x47, x48, x49, x50, x51, x52, x53, x54, x55, x56, x57, x58, x59, x60, x61, x62, x63, x64, x65, x66, x67, x68, x69, x70, x71, x72, x73, x74, x75, x76, x77, x78, x79, x80, x81, x82, x83, x84, x85, x86, x87, x88, x89, x90, x91, x92, x93, x94, x95, x96, x97, x98, x99, x100, x101, x102, x103, x104, x105, x106, x107, x108, x109, x110, x111, x112, x113, x114, x115, x116, x117, x118, x119, x120, x121, x122, x123, x124, x125, x126, x127, x128, x129, x130, x131, x132, x133, x134, x135, x136, x137, x138, x139, x140, x141, x142, x143, x144, x145, x146, x147, x148, x149, x150, x151, x152, x153, x154, x155, x156, x157, x158, x159, x160, x161, x162, x163, x164, x165, x166, x167, x168, x169, x170, x171, x172, x173, x174, x175, x176, x177, x178, x179, x180, x181, x182, x183, x184, x185, x186, x187, x188, x189, x190, x191, x192, x193, x194, x195, x196, x197, x198, x199, x200, x201, x202, x203, x204, x205, x206, x207, x208, x209, x210, x211, x212, x213, x214, x215, x216, x217, x218, x219, x220, x221, x222, x223, x224, x225, x226, x227, x228, x229, x230, x231, x232, x233, x234, x235, x236, x237, x238, x239, x240, x241, x242, x243, x244, x245, x246, x247, x248, x249, x250, x251, x252, x253, x254, x255, x256, x257, x258, x259, x260, x261, x262, x263, x264, x265, x266, x267, x268, x269, x270, x271, x272, x273, x274, x275, x276, x277, x278, x279, x280, x281, x282, x283, x284, x285, x286, x287, x288, x289, x290, x291, x292, x293, x294, x295, x296, x297, x298, x299, x300, x301, x302, x303, x304, x305, x306, x307, x308, x309, x310, x311, x312, x313, x314, x315, x316, x317, x318, x319, x320, x321, x322, x323, x324, x325, x326, x327, x328, x329, x330, x331, x332, x333, x334, x335, x336, x337, x338, x339, x340, x341, x342, x343, x344, x345, x346, x347], []⟩ w0 := by
  have HOK : Hid (TsOk w0 a0 len) := hok
  clear hok
  conv => arg 2; whnf
  go_wp2_with fail
  refine Calls.mono (new_calls w0) ?_
  rintro e w1 ⟨rfl, hS1, hT1, h1, h2, h3, h4, h5, hs1, hf1⟩
  have hb1 : Below w0.heap.size w0 w1 := (Below.refl _ _).trans (hf1.below (Nat.le_refl _) (fun _ e => e.elim))
  rw [hn] at hs1 hS1 hT1 h2 h3 h4 h5 ⊢
  clear h1 h4
  have c9 := fun A B C => Blk.cell? (Blk.alloc (Blk.alloc (Blk.alloc hS1 A) B) C) 9
  have c9' := fun A => Blk.cell? (Blk.alloc hS1 A) 9
  go_upto_if 80 with fail
  rw [show n + 7 + 1 + 1 = n + 9 from rfl, show n + 7 + 1 = n + 8 from rfl]
  have hF : Fr w1 (((w1.alloc (.cells #[.pointer (some ⟨n + 6, 0, none⟩)] 28)).alloc (.cells #[.pointer none, .pointer none, .pointer none, .pointer none] 49)).alloc (.cells #[.int .i64 0, .int .i64 0, .int .i64 0, .int .i64 0] 50)) (fun _ => False) := (((Fr.refl w1 _).alloc _).alloc _).alloc _
  have hset : Set w0 (((w1.alloc (.cells #[.pointer (some ⟨n + 6, 0, none⟩)] 28)).alloc (.cells #[.pointer none, .pointer none, .pointer none, .pointer none] 49)).alloc (.cells #[.int .i64 0, .int .i64 0, .int .i64 0, .int .i64 0] 50)) n [none, none, none, none] (cnt []) :=
    ⟨hb1.trans (hF.below hb1.size (fun _ e => e.elim)), Blk.keep hS1 hF id, Blk.keep hT1 hF id, h2.keep hF id, h3.keep hF id, h5.keep hF id, ((Blk.newAt _ _ _ (by rw [hs1])).alloc _).alloc _, (Blk.newAt _ _ _ (by simp [hs1])).alloc _, Blk.newAt _ _ _ (by simp [hs1])⟩
  have hw3 : (((w1.alloc (.cells #[.pointer (some ⟨n + 6, 0, none⟩)] 28)).alloc (.cells #[.pointer none, .pointer none, .pointer none, .pointer none] 49)).alloc (.cells #[.int .i64 0, .int .i64 0, .int .i64 0, .int .i64 0] 50)).heap.size = n + 10 := by simp [hs1]
  generalize (((w1.alloc (.cells #[.pointer (some ⟨n + 6, 0, none⟩)] 28)).alloc (.cells #[.pointer none, .pointer none, .pointer none, .pointer none] 49)).alloc (.cells #[.int .i64 0, .int .i64 0, .int .i64 0, .int .i64 0] 50)) = w3 at hF hset hw3 ⊢
  clear c9 c9' hS1 hT1 h2 h3 h5 hF
  have hsv : w3.cell? ⟨n + 7, 0, none⟩ = some (.pointer (some ⟨n + 6, 0, none⟩)) := hset.hsv.cell? 0
  cases nod with
  | true =>
    go_cut [13, 14] from 80 to 80 (fun x y wc => x = .int .i64 0 ∧ y = .pointer none ∧ wc = w3)
    case rest =>
      obtain ⟨hx, hy, hwc⟩ := hcut
      subst hx
      subst hy
      subst hwc
      rename_i hk
      apply hk
      refine phD_nil n [none, none, none, none] w0 wc hn hset rfl ?_
      intro k b hkb
      match k, hkb with
      | 0, h => simp at h
      | 1, h => simp at h
      | 2, h => simp at h
      | 3, h => simp at h
      | k + 4, h => simp at h
    case first =>
      go_wp2_with fail
      go_meet
      exact ⟨rfl, rfl, rfl⟩
  | false =>
    go_cut [13, 14, 15, 16, 17, 18, 19, 20, 21, 23, 24, 25] from 80 to 191 (fun x13 x14 _ _ _ _ _ _ _ _ _ _ wc => ∃ (N e : Nat) (v : Value) (m : Ents) (gs : List (List Nat)) (st : List (Option Nat)), x13 = .int .i64 N ∧ x14 = .pointer (some ⟨n + 14, 0, none⟩) ∧ Set w0 wc n st (cnt gs) ∧ Drf wc n (e : Int) v m gs ∧ st.length = 4 ∧ (∀ k b, st[k]? = some (some b) → look m (tk k) = some (.pointer (some ⟨b, 0, none⟩))) ∧ m.length ≤ 4 ∧ gs.length ≤ 64 ∧ m.length = N)
    case rest =>
      obtain ⟨N, e, v, m, gs, st, hx, hy, q1, q2, q3, q4, q5, q6, q7⟩ := hcut
      subst hx
      subst hy
      rename_i hk
      apply hk
      by_cases he : (e : Int) ≤ 1024
      · exact phD_in n N e v m gs st w0 wc hn q1 q2 q3 q4 q5 q6 q7 he
      · exact phD_copy n N e v m gs st w0 wc hn q1 q2 q3 q4 q5 q6 q7 he
    case first =>
      go_wp2_with fail
      refine Calls.mono (draft_calls (n + 6) w3) ?_
      rintro e w4 ⟨rfl, hD4, p0, p1, p2, p3, hs4, hf4⟩
      rw [hw3] at hD4 p0 p1 p2 p3 hs4 ⊢
      rw [show n + 10 + 4 = n + 14 from rfl]
      have hI : Inv w0 w4 n 0 (.slice none 0 0) [] [] [none, none, none, none] := by
        refine ⟨hset.keep hn hf4 (fun _ _ h => h), ⟨hD4, p0, p1, p2, p3, ⟨[], World.ownsRow_nil w4 n 55 1, fun j hj => absurd hj (Nat.not_lt_zero _)⟩⟩, rfl, ?_, rfl, rfl, Nat.le_refl _⟩
        intro k hk
        have h1 : k = 0 ∨ k = 1 ∨ k = 2 ∨ k = 3 := by omega
        rcases h1 with rfl | rfl | rfl | rfl <;> rfl
      clear hD4 p0 p1 p2 p3 hset
      go_wp2_with fail
      go_loopw [13, 85] (fun nv iv wr => ∃ (i N : Nat) (v : Value) (m : Ents) (gs : List (List Nat)) (st : List (Option Nat)), i ≤ len ∧ iv = .int .i64 i ∧ nv = .int .i64 N ∧ Inv w0 wr n N v m gs st) (fun _ iv _ => len - (intOf iv).toNat)
      case atStart => exact ⟨0, 0, _, _, _, _, Nat.zero_le _, rfl, rfl, hI⟩
      case round =>
        clear hI
        obtain ⟨i, N, v, m, gs, st, hi, rfl, rfl, hI⟩ := hrel
        by_cases hil : i < len
        · have hil' : (i : Int) < (len : Int) := by omega
          obtain ⟨b, off, z, ra, rl, rc, rfl, hbl, cz, hz, cr, hro, hrl⟩ := HOK.out i hil
          go_upto_block 5 with fail
          refine phT b off len cap i n N v m gs st z ra rl rc w0 wr _ hn hI hil hbl cz hz cr hro ?_
          rintro w5 N' _ _ _ _ _ _ _ _ _ _ _ _ _ _ _ _ _ _ _ _ _ _ _ _ _ _ _ _ _ _ _ _ _ _ _ _ _ _ _ _ _ _ _ _ _ _ _ _ _ _ _ _ _ _ _ _ _ _ _ _ _ _ _ _ _ _ _ _ _ _ _ _ _ _ _ _ _ _ _ _ _ _ _ _ _ _ _ _ _ _ _ _ _ _ _ _ _ _ _ _ _ _ _ _ _ _ _ _ ⟨v', m', gs', st', hI'⟩
          go_wp2_with fail
          go_roundw
          case rel => exact ⟨i + 1, N', v', m', gs', st', by omega, by go_num, rfl, hI'⟩
          case measure => simp [intOf]; omega
        · have hil' : ¬ ((i : Int) < (len : Int)) := by omega
          obtain ⟨e2, he2, he3⟩ : ∃ e2 : Nat, (ed : Int) % 2048 = (e2 : Int) ∧ e2 < 2048 := ⟨ed % 2048, by omega, by omega⟩
          have d5 := hI.drf.hD.cell? 5
          have d5' := hI.drf.hD.free 5
          go_wp2_with fail
          go_meet
          have hN4 := hI.le
          have hgl := hI.gl
          have hml := hI.ml
          have hf : Fr wr (wr.setCell ⟨n + 14, 5, none⟩ (.int .i64 (e2 : Int))) (fun k => k = n + 14) := Fr.setCell (Fr.refl wr _) (fun _ => Eq.refl (n + 14)) _
          refine ⟨N, e2, v, m, gs, st, rfl, rfl, hI.set.keep hn hf (fun k _ => by omega), hI.drf.setEdits e2, hI.l4, ?_, by omega, by omega, hml⟩
          intro k b hkb
          have hk4 : k < 4 := by
            have := (List.getElem?_eq_some_iff.1 hkb).1
            rw [hI.l4] at this
            exact this
          rw [hI.lk k hk4, hkb]
          rfl
end Go.Proofs.Ybulkuvc
