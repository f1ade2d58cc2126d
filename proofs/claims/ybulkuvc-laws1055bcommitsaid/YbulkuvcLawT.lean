/- LawS1055BCommit: one tenant. -/
import Derived.Test.YbulkuvcLawR
namespace Go.Proofs.Ybulkuvc
open Go.RowKit Go.Maps Go.WideMaps
attribute [local go_sem] cat_tk

theorem Set.move {w0 w w' : World} {n : Nat} {st st' : List (Option Nat)} {c c' : Nat → Nat} {S : Nat → Prop} (h : Set w0 w n st c) (hn : w0.heap.size = n) (hf : Fr w w' S) (hS : ∀ k, k < n + 8 → k ≠ n → k ≠ n + 3 → ¬ S k) (hst : Blk w' (n + 8) (stv st') 49) (hex : Blk w' (n + 9) (exv c') 50) : Set w0 w' n st' c' :=
  ⟨h.bel.trans (hf.below h.bel.size (fun k hk => Nat.le_of_not_lt fun hlt => hS k (by omega) (by omega) (by omega) hk)), Blk.keep h.sto hf (hS _ (by omega) (by omega) (by omega)), Blk.keep h.tab hf (hS _ (by omega) (by omega) (by omega)), h.m1.keep hf (hS _ (by omega) (by omega) (by omega)), h.m2.keep hf (hS _ (by omega) (by omega) (by omega)), h.m5.keep hf (hS _ (by omega) (by omega) (by omega)), h.hsv.keep hf (hS _ (by omega) (by omega) (by omega)), hst, hex⟩
theorem Set.keep {w0 w w' : World} {n : Nat} {st : List (Option Nat)} {c : Nat → Nat} {S : Nat → Prop} (h : Set w0 w n st c) (hn : w0.heap.size = n) (hf : Fr w w' S) (hS : ∀ k, k < n + 10 → ¬ S k) : Set w0 w' n st c :=
  h.move hn hf (fun k hk _ _ => hS k (by omega)) (h.hst.keep hf (hS _ (by omega))) (h.hex.keep hf (hS _ (by omega)))
theorem Drf.keep {w w' : World} {n : Nat} {ed : Int} {v : Value} {m : Ents} {gs : List (List Nat)} {S : Nat → Prop} (h : Drf w n ed v m gs) (hf : Fr w w' S) (hS : ∀ k, n + 10 ≤ k → k ≤ n + 14 → ¬ S k) (hN : ∀ g cs t, t = 55 ∨ t = 58 → Blk w g cs t → ¬ S g) : Drf w' n ed v m gs :=
  ⟨Blk.keep h.hD hf (hS _ (by omega) (by omega)), h.p0.keep hf (hS _ (by omega) (by omega)), h.p1.keep hf (hS _ (by omega) (by omega)), h.p2.keep hf (hS _ (by omega) (by omega)), h.p3.keep hf (hS _ (by omega) (by omega)), h.now.keep hf hN⟩

/-- What holds at each tenant. -/
structure Inv (w0 w : World) (n N : Nat) (v : Value) (m : Ents) (gs : List (List Nat)) (st : List (Option Nat)) : Prop where
  set : Set w0 w n st (cnt gs)
  drf : Drf w n (N : Int) v m gs
  l4 : st.length = 4
  lk : ∀ k, k < 4 → look m (tk k) = (st[k]?.getD none).map (fun b => .pointer (some ⟨b, 0, none⟩))
  ct : (st.filter Option.isSome).length = N
  ml : m.length = N
  gl : gs.length ≤ 8 * N
theorem Inv.le {w0 w : World} {n N : Nat} {v : Value} {m : Ents} {gs : List (List Nat)} {st : List (Option Nat)} (h : Inv w0 w n N v m gs st) : N ≤ 4 := by
  have h1 := List.length_filter_le Option.isSome st
  rw [h.ct, h.l4] at h1
  exact h1

theorem tk_inj {m n : Nat} (hm : m < 4) (hn : n < 4) (h : tk m = tk n) : m = n := by
  have : (tk m).data.toList = (tk n).data.toList := by rw [h]
  have h1 : m = 0 ∨ m = 1 ∨ m = 2 ∨ m = 3 := by omega
  have h2 : n = 0 ∨ n = 1 ∨ n = 2 ∨ n = 3 := by omega
  rcases h1 with rfl | rfl | rfl | rfl <;> rcases h2 with rfl | rfl | rfl | rfl <;> first | rfl | (exact absurd this (by decide))
theorem rk_inj {m n : Nat} (hm : m < 8) (hn : n < 8) (h : rk m = rk n) : m = n := by
  have e : (rk m).data.toList = (rk n).data.toList := by rw [h]
  have h1 : m = 0 ∨ m = 1 ∨ m = 2 ∨ m = 3 ∨ m = 4 ∨ m = 5 ∨ m = 6 ∨ m = 7 := by omega
  have h2 : n = 0 ∨ n = 1 ∨ n = 2 ∨ n = 3 ∨ n = 4 ∨ n = 5 ∨ n = 6 ∨ n = 7 := by omega
  rcases h1 with rfl | rfl | rfl | rfl | rfl | rfl | rfl | rfl <;> rcases h2 with rfl | rfl | rfl | rfl | rfl | rfl | rfl | rfl <;> first | rfl | (exact absurd e (by decide))
theorem stv_set (st : List (Option Nat)) (k b : Nat) : (stv st).setIfInBounds k (.pointer (some ⟨b, 0, none⟩)) = stv (st.set k (some b)) := by
  simp [stv, List.map_set]
theorem count_set : ∀ (st : List (Option Nat)) (k b : Nat), st[k]? = some none → ((st.set k (some b)).filter Option.isSome).length = (st.filter Option.isSome).length + 1
  | [], k, b, h => by simp at h
  | o :: st, 0, b, h => by
    simp at h
    subst h
    simp
  | o :: st, k + 1, b, h => by
    have := count_set st k b (by simpa using h)
    rw [List.set_cons_succ, List.filter_cons, List.filter_cons]
    split <;> simp [this]

set_option maxRecDepth 100000 in
set_option maxHeartbeats 3200000 in
theorem phT (b off len cap i n N : Nat) (v : Value) (m : Ents) (gs : List (List Nat)) (st : List (Option Nat)) (z : Nat) (ra : Option Addr) (rl rc : Nat) (w0 w : World) (Q : Exit → Act → World → Prop) {x1 x2 x3 x4 x5 x6 x7 x8 x9 x10 x15 x16 x17 x18 x19 x20 x21 x22 x23 x24 x25 x26 x27 x28 x29 x30 x31 x32 x33 x34 x35 x36 x37 x38 x39 x40 x41 x42 x43 x44 x45 x46 x47 x48 x49 x50 x51 x52 x53 x54 x55 x56 x57 x58 x59 x60 x61 x62 x63 x64 x65 x66 x67 x68 x69 x70 x71 x72 x73 x74 x75 x76 x77 x78 x79 x80 x81 x82 x83 x84 x86 x87 x88 x89 x90 x91 x92 x93 x94 x95 x96 x97 x98 x99 x100 x101 x102 x103 x104 x105 x106 x107 x108 x109 x110 x111 x112 x113 x114 x115 x116 x117 x118 x119 x120 x121 x122 x123 x124 x125 x126 x127 x128 x129 x130 x131 x132 x133 x134 x135 x136 x137 x138 x139 x140 x141 x142 x143 x144 x145 x146 x147 x148 x149 x150 x151 x152 x153 x154 x155 x156 x157 x158 x159 x160 x161 x162 x163 x164 x165 x166 x167 x168 x169 x170 x171 x172 x173 x174 x175 x176 x177 x178 x179 x180 x181 x182 x183 x184 x185 x186 x187 x188 x189 x190 x191 x192 x193 x194 x195 x196 x197 x198 x199 x200 x201 x202 x203 x204 x205 x206 x207 x208 x209 x210 x211 x212 x213 x214 x215 x216 x217 x218 x219 x220 x221 x222 x223 x224 x225 x226 x227 x228 x229 x230 x231 x232 x233 x234 x235 x236 x237 x238 x239 x240 x241 x242 x243 x244 x245 x246 x247 x248 x249 x250 x251 x252 x253 x254 x255 x256 x257 x258 x259 x260 x261 x262 x263 x264 x265 x266 x267 x268 x269 x270 x271 x272 x273 x274 x275 x276 x277 x278 x279 x280 x281 x282 x283 x284 x285 x286 x287 x288 x289 x290 x291 x292 x293 x294 x295 x296 x297 x298 x299 x300 x301 x302 x303 x304 x305 x306 x307 x308 x309 x310 x311 x312 x313 x314 x315 x316 x317 x318 x319 x320 x321 x322 x323 x324 x325 x326 x327 x328 x329 x330 x331 x332 x333 x334 x335 x336 x337 x338 x339 x340 x341 x342 x343 x344 x345 x346 x347 : Value}
    (hn : w0.heap.size = n) (hI : Inv w0 w n N v m gs st) (hil : i < len) (hbl : b < w0.heap.size) (cz0 : w0.cell? ⟨b, off + i * 2, none⟩ = some (.int .u8 z)) (hz : z < 256) (cr0 : w0.cell? ⟨b, off + i * 2 + 1, none⟩ = some (.slice ra rl rc)) (hro : RolesOk w0 ra rl)
    (hQ : ∀ (w' : World) (N' : Nat) {y15 y16 y17 y18 y19 y20 y21 y23 y24 y25 y87 y88 y89 y90 y91 y92 y93 y94 y95 y96 y97 y98 y99 y100 y101 y102 y103 y104 y105 y106 y107 y108 y109 y110 y111 y112 y113 y114 y115 y116 y117 y118 y119 y120 y121 y122 y123 y124 y125 y126 y127 y128 y129 y130 y131 y132 y133 y134 y135 y136 y137 y138 y139 y140 y141 y142 y143 y144 y145 y146 y147 y148 y149 y150 y151 y152 y153 y154 y155 y156 y157 y158 y159 y160 y161 y162 y163 y164 y165 y166 y167 y168 y169 y170 y171 y172 y173 y174 y175 y176 y177 y178 y179 y180 y181 y182 y183 y184 : Value}, (∃ v' m' gs' st', Inv w0 w' n N' v' m' gs' st') → Q .normal ⟨#[.slice (some ⟨b, off, none⟩) len cap, x1, x2, x3, x4, x5, x6, x7, x8, x9, x10, .pointer (some ⟨n + 8, 0, none⟩), .pointer (some ⟨n + 9, 0, none⟩), .int .i64 (N' : Nat), .pointer (some ⟨n + 14, 0, none⟩), y15, y16, y17, y18, y19, y20, y21, x22, y23, y24, y25, x26, x27, x28, x29, x30, x31, x32, x33, x34, x35, x36, x37, x38, x39, x40, x41, x42, x43, x44, x45, x46, x47, x48, x49, x50, x51, x52, x53, x54, x55, x56, x57, x58, x59, x60, x61, x62, x63, x64, x65, x66, x67, x68, x69, x70, x71, x72, x73, x74, x75, x76, x77, x78, x79, x80, x81, x82, x83, x84, .int .i64 (i : Nat), x86, y87, y88, y89, y90, y91, y92, y93, y94, y95, y96, y97, y98, y99, y100, y101, y102, y103, y104, y105, y106, y107, y108, y109, y110, y111, y112, y113, y114, y115, y116, y117, y118, y119, y120, y121, y122, y123, y124, y125, y126, y127, y128, y129, y130, y131, y132, y133, y134, y135, y136, y137, y138, y139, y140, y141, y142, y143, y144, y145, y146, y147, y148, y149, y150, y151, y152, y153, y154, y155, y156, y157, y158, y159, y160, y161, y162, y163, y164, y165, y166, y167, y168, y169, y170, y171, y172, y173, y174, y175, y176, y177, y178, y179, y180, y181, y182, y183, y184, x185, x186, x187, x188, x189, x190, x191, x192, x193, x194, x195, x196, x197, x198, x199, x200, x201, x202, x203, x204, x205, x206, x207, x208, x209, x210, x211, x212, x213, x214, x215, x216, x217, x218, x219, x220, x221, x222, x223, x224, x225, x226, x227, x228, x229, x230, x231, x232, x233, x234, x235, x236, x237, x238, x239, x240, x241, x242, x243, x244, x245, x246, x247, x248, x249, x250, x251, x252, x253, x254, x255, x256, x257, x258, x259, x260, x261, x262, x263, x264, x265, x266, x267, x268, x269, x270, x271, x272, x273, x274, x275, x276, x277, x278, x279, x280, x281, x282, x283, x284, x285, x286, x287, x288, x289, x290, x291, x292, x293, x294, x295, x296, x297, x298, x299, x300, x301, x302, x303, x304, x305, x306, x307, x308, x309, x310, x311, x312, x313, x314, x315, x316, x317, x318, x319, x320, x321, x322, x323, x324, x325, x326, x327, x328, x329, x330, x331, x332, x333, x334, x335, x336, x337, x338, x339, x340, x341, x342, x343, x344, x345, x346, x347], []⟩ w') :
    Code.wp Yba.prog (hd (dropSeq 2 (lop (blk (dropSeq 1 (hd (dropSeq 1 (thn (dropSeq 1 (hd (dropSeq 9 (Yba.f3.body.getD .skip)))))))))))) Q ⟨#[.slice (some ⟨b, off, none⟩) len cap, x1, x2, x3, x4, x5, x6, x7, x8, x9, x10, .pointer (some ⟨n + 8, 0, none⟩), .pointer (some ⟨n + 9, 0, none⟩), .int .i64 (N : Nat), .pointer (some ⟨n + 14, 0, none⟩), x15, x16, x17, x18, x19, x20, x21, x22, x23, x24, x25, x26, x27, x28, x29, x30, x31, x32, x33, x34, x35, x36, x37, x38, x39, x40, x41, x42, x43, x44, x45, x46, x47, x48, x49, x50, x51, x52, x53, x54, x55, x56, x57, x58, x59, x60, x61, x62, x63, x64, x65, x66, x67, x68, x69, x70, x71, x72, x73, x74, x75, x76, x77, x78, x79, x80, x81, x82, x83, x84, .int .i64 (i : Nat), x86, x87, x88, x89, x90, x91, x92, x93, x94, x95, x96, x97, x98, x99, x100, x101, x102, x103, x104, x105, x106, x107, x108, x109, x110, x111, x112, x113, x114, x115, x116, x117, x118, x119, x120, x121, x122, x123, x124, x125, x126, x127, x128, x129, x130, x131, x132, x133, x134, x135, x136, x137, x138, x139, x140, x141, x142, x143, x144, x145, x146, x147, x148, x149, x150, x151, x152, x153, x154, x155, x156, x157, x158, x159, x160, x161, x162, x163, x164, x165, x166, x167, x168, x169, x170, x171, x172, x173, x174, x175, x176, x177, x178, x179, x180, x181, x182, x183, x184, x185, x186, x187, x188, x189, x190, x191, x192, x193, x194, x195, x196, x197, x198, x199, x200, x201, x202, x203, x204, x205, x206, x207, x208, x209, x210, x211, x212, x213, x214, x215, x216, x217, x218, x219, x220, x221, x222, x223, x224, x225, x226, x227, x228, x229, x230, x231, x232, x233, x234, x235, x236, x237, x238, x239, x240, x241, x242, x243, x244, x245, x246, x247, x248, x249, x250, x251, x252, x253, x254, x255, x256, x257, x258, x259, x260, x261, x262, x263, x264, x265, x266, x267, x268, x269, x270, x271, x272, x273, x274, x275, x276, x277, x278, x279, x280, x281, x282, x283, x284, x285, x286, x287, x288, x289, x290, x291, x292, x293, x294, x295, x296, x297, x298, x299, x300, x301, x302, x303, x304, x305, x306, x307, x308, x309, x310, x311, x312, x313, x314, x315, x316, x317, x318, x319, x320, x321, x322, x323, x324, x325, x326, x327, x328, x329, x330, x331, x332, x333, x334, x335, x336, x337, x338, x339, x340, x341, x342, x343, x344, x345, x346, x347], []⟩ w := by
  have HQ := show Hid _ from hQ
  have HRO : Hid (RolesOk w0 ra rl) := hro
  clear hQ hro
  have hil' : (i : Int) < (len : Int) := by omega
  have cz : w.cell? ⟨b, off + i * 2, none⟩ = some (.int .u8 z) := (hI.set.bel.cell (by exact hbl)).trans cz0
  have cr : w.cell? ⟨b, off + i * 2 + 1, none⟩ = some (.slice ra rl rc) := (hI.set.bel.cell (by exact hbl)).trans cr0
  clear cz0
  obtain ⟨kn, hkn, hkn4⟩ : ∃ kn : Nat, (z : Int) % 4 = (kn : Int) ∧ kn < 4 := ⟨z % 4, by omega, by omega⟩
  have hkn4' : (kn : Int) < 4 := by omega
  have hl4 := hI.l4
  have hsk : st[kn]? = some st[kn] := List.getElem?_eq_getElem (by omega)
  have cs0 := (hI.set.hst.cell? kn).trans (stv_get st kn)
  rw [hsk] at cs0
  conv => arg 2; whnf
  cases hb : st[kn] with
  | some b0 =>
    rw [hb] at cs0
    have cs : w.cell? ⟨n + 8, kn, none⟩ = some (.pointer (some ⟨b0, 0, none⟩)) := cs0
    clear cs0
    go_wp2_with fail
    exact HQ.out w N ⟨v, m, gs, st, hI⟩
  | none =>
    rw [hb] at cs0
    have cs : w.cell? ⟨n + 8, kn, none⟩ = some (.pointer none) := cs0
    clear cs0
    rw [hb] at hsk
    go_wp2_with fail
    refine Calls.mono (newTenant_calls _ w) ?_
    rintro e w1 ⟨rfl, hT1, hrm1, hs1, hf1⟩
    have hwl := hI.set.bel.size
    have cr1 : w1.cell? ⟨b, off + i * 2 + 1, none⟩ = some (.slice ra rl rc) := (World.cell?_of_block (hf1.block b (by omega) id)).trans cr
    clear cr
    generalize hT : w.heap.size + 2 = T at *
    generalize hum : w.heap.size + 1 = um at *
    generalize hrm : w.heap.size = rm at *
    go_upto_if 107 with fail
    go_cut [18] from 107 to 107 (fun nv wc => wc = w1 ∧ ∃ nr : Nat, nr ≤ 8 ∧ nr ≤ rl ∧ nv = .int .i64 nr)
    case first =>
      by_cases h8 : 8 < rl
      · have h8' : (8 : Int) < (rl : Int) := by omega
        go_wp2_with fail
        go_meet
        exact ⟨rfl, 8, by omega, by omega, rfl⟩
      · have h8' : ¬ ((8 : Int) < (rl : Int)) := by omega
        go_wp2_with fail
        go_meet
        exact ⟨rfl, rl, by omega, by omega, rfl⟩
    case rest =>
    obtain ⟨rfl, nr, hnr8, hnrl, rfl⟩ := hcut
    have hS1 : Set w0 wc n st (cnt (gs ++ kss [])) := by
      rw [show gs ++ kss [] = gs by simp]
      exact hI.set.keep hn hf1 (fun _ _ h => h)
    have hD1 : Drf wc n (N : Int) v m gs := hI.drf.keep hf1 (fun _ _ _ h => h) (fun _ _ _ _ _ h => h)
    have hN4 := hI.le
    have hgl8 := hI.gl
    have hDl := Blk.lt hI.drf.hD
    have hsdk := sub_dk hkn4
    have hct := cat_tk kn
    go_wp2_with fail
    go_loopw [19] (fun jv wr => ∃ (j : Nat) (q : Ro), j ≤ nr ∧ jv = .int .i64 j ∧ q.length = j ∧ (∀ x ∈ q, Gr wr x.2.1 x.2.2) ∧ q.map (fun x => x.1) = (List.range j).map rk ∧ Mp wr rm (ents q) ∧ Set w0 wr n st (cnt (gs ++ kss q)) ∧ Drf wr n (N : Int) v m gs ∧ Blk wr T #[.string ⟨#[110]⟩, .map (some rm), .map (some um)] 62) (fun jv _ => nr - (intOf jv).toNat)
    case atStart => exact ⟨0, [], Nat.zero_le _, rfl, rfl, by simp, rfl, hrm1, hS1, hD1, hT1⟩
    case round =>
      clear hS1 hD1
      obtain ⟨j, q, hj, rfl, hql, hqg, hqn, hrmr, hSr, hDr, hTr⟩ := hrel
      have HQG : Hid (∀ x ∈ q, Gr wr x.2.1 x.2.2) := hqg
      have HQN : Hid (q.map (fun x => x.1) = (List.range j).map rk) := hqn
      clear hqg hqn
      have hrmn : n + 15 ≤ rm := by omega
      by_cases hjr : j < nr
      · have hjr' : (j : Int) < (nr : Int) := by omega
        obtain ⟨b2, off2, ga, gl, gc, rfl, hbl2, cj0, hby, hgl⟩ := HRO.out j (by omega)
        have HBY : Hid (BytesIn w0 ga gl) := hby
        clear hby
        have cj : wr.cell? ⟨b2, off2 + j, none⟩ = some (.slice ga gl gc) := (hSr.bel.cell (by exact hbl2)).trans cj0
        have ci : wr.cell? ⟨b, off + i * 2 + 1, none⟩ = some (.slice (some ⟨b2, off2, none⟩) rl rc) := (hSr.bel.cell (by exact hbl)).trans cr0
        have hM : look (ents q) (rk j) = none := by
          rw [look_none]
          intro u hu
          have h1 : rk j ∈ q.map (fun x => x.1) := by
            obtain ⟨x, hx, e⟩ := List.mem_map.1 hu
            exact List.mem_map.2 ⟨x, hx, congrArg Prod.fst e⟩
          rw [HQN.out] at h1
          obtain ⟨y, hy, e⟩ := List.mem_map.1 h1
          have hyj := List.mem_range.1 hy
          have := rk_inj (by omega) (by omega) e
          omega
        go_upto_block 7 with fail
        refine phR b off len cap i j b2 off2 rl rc gl gc n (n + 9) T rm um ga ⟨#[110]⟩ (gs ++ kss q) (ents q) w0 wr _ hn hSr.bel hil (by omega) (by omega) hgl HBY.out ci cj hbl hbl2 hSr.hex (by omega) (by simp; omega) hTr hrmr hM (by simp; omega) ?_
        rintro w2 _ _ _ _ _ _ _ _ _ _ _ _ _ _ _ _ _ _ _ _ _ _ _ _ _ _ _ _ _ _ _ _ _ _ _ _ _ _ _ _ _ _ _ _ _ _ _ _ _ _ _ _ _ _ _ _ _ _ _ _ _ _ _ _ ⟨ks, u, hgu, hE2, hrm2⟩ hf2
        go_wp2_with fail
        go_roundw
        case rel =>
          have h58 : ∀ g cs ty, ty = 55 ∨ ty = 58 → Blk wr g cs ty → ¬ (g = n + 9 ∨ g = rm) := fun g cs ty hty hb => nor (hb.ne hSr.hex (by rcases hty with h | h <;> rw [h] <;> decide)) (hb.neMp hrmr)
          refine ⟨j + 1, q ++ [(rk j, u, ks)], by omega, by go_num, by simp [hql], ?_, ?_, ?_, ?_, hDr.keep hf2 (fun k _ _ => nor (by omega) (by omega)) h58, hTr.keep hf2 (nor (by omega) (by omega))⟩
          · intro x hx
            rcases List.mem_append.1 hx with hx | hx
            · exact (HQG.out x hx).keep hf2 (fun g cs hb => h58 g cs 58 (.inr rfl) hb)
            · simp at hx
              subst hx
              exact hgu
          · rw [List.map_append, HQN.out, List.range_succ, List.map_append]
            rfl
          · simpa [ents, en] using hrm2
          · refine hSr.move hn hf2 (fun k _ _ _ => nor (by omega) (by omega)) (hSr.hst.keep hf2 (nor (by omega) (by omega))) ?_
            simpa [kss] using hE2
        case measure => simp [intOf]; omega
      · have hjr' : ¬ ((j : Int) < (nr : Int)) := by omega
        have hlkn : look m (tk kn) = none := by
          rw [hI.lk kn hkn4, hsk]
          rfl
        have hml := hI.ml
        have u3 := stage_calls (n + 14) (n + 6) (n + 4) (n + 5) n (n + 1) (n + 2) (n + 3) (n + 10) (n + 11) (n + 12) (n + 13) T rm um n (N : Int) ⟨#[110]⟩ (tk kn) v m gs q wr hDr.hD hSr.sto hSr.tab hSr.m1 hTr hrmr HQG.out hDr.p1 hlkn (by omega) hDr.now (by omega) (tk_size kn) (by have := hSr.bel.size; omega) (by omega) (by omega)
        go_wp2_with fail
        refine Calls.mono u3 ?_
        rintro e w3 ⟨rfl, ⟨v3, q3, hp3, hD3, hnow3⟩, hm3, hf3⟩
        have hst3 : Blk w3 (n + 8) (stv st) 49 := hSr.hst.keep hf3 (nor (by omega) (nor (by omega) (fun ⟨_, cs, hb⟩ => hb.ne hSr.hst (by decide) rfl)))
        have cs3 : w3.cell? ⟨n + 8, kn, none⟩ = some (.pointer none) := (hst3.cell? kn).trans (by rw [stv_get, hsk]; rfl)
        have fs3 := hst3.free kn
        go_wp2_with fail
        have hf4 : Fr wr (w3.setCell ⟨n + 8, kn, none⟩ (.pointer (some ⟨T, 0, none⟩))) (fun k => (k = n + 14 ∨ k = n + 11 ∨ (n ≤ k ∧ ∃ cs, Blk wr k cs 55)) ∨ k = n + 8) := Fr.setCell (hf3.mono (fun _ _ e => .inl e)) (fun _ => .inr (Eq.refl (n + 8))) _
        have hf34 : Fr w3 (w3.setCell ⟨n + 8, kn, none⟩ (.pointer (some ⟨T, 0, none⟩))) (fun k => k = n + 8) := Fr.setCell (Fr.refl w3 _) (fun _ => Eq.refl (n + 8)) _
        have hst4 := hst3.set kn (.pointer (some ⟨T, 0, none⟩))
        rw [stv_set] at hst4
        have hno : ∀ k cs, Blk wr k cs 55 → k < n + 15 → n ≤ k → k = n ∨ k = n + 3 ∨ k = n + 8 := fun k cs hb h1 h2 => by
          have h3 : k = n ∨ k = n + 3 ∨ k = n + 8 ∨ k = n + 1 ∨ k = n + 2 ∨ k = n + 4 ∨ k = n + 5 ∨ k = n + 6 ∨ k = n + 7 ∨ k = n + 9 ∨ k = n + 10 ∨ k = n + 11 ∨ k = n + 12 ∨ k = n + 13 ∨ k = n + 14 := by omega
          rcases h3 with h3 | h3 | h3 | h3 | h3 | h3 | h3 | h3 | h3 | h3 | h3 | h3 | h3 | h3 | h3
          · exact .inl h3
          · exact .inr (.inl h3)
          · exact .inr (.inr h3)
          · exact absurd h3 (hb.neMp hSr.m1)
          · exact absurd h3 (hb.neMp hSr.m2)
          · exact absurd h3 (hb.ne hSr.tab (by decide))
          · exact absurd h3 (hb.neMp hSr.m5)
          · exact absurd h3 (hb.ne hSr.sto (by decide))
          · exact absurd h3 (hb.ne hSr.hsv (by decide))
          · exact absurd h3 (hb.ne hSr.hex (by decide))
          · exact absurd h3 (hb.neMp hDr.p0)
          · exact absurd h3 (hb.neMp hDr.p1)
          · exact absurd h3 (hb.neMp hDr.p2)
          · exact absurd h3 (hb.neMp hDr.p3)
          · exact absurd h3 (hb.ne hDr.hD (by decide))
        have hex3 : Blk (w3.setCell ⟨n + 8, kn, none⟩ (.pointer (some ⟨T, 0, none⟩))) (n + 9) (exv (cnt (gs ++ kss q3))) 50 := by
          rw [exv_congr (d := cnt (gs ++ kss q)) (fun i _ => by rw [cnt_append, cnt_append, cnt_perm (hp3.map _) i])]
          exact hSr.hex.keep hf4 (nor (nor (by omega) (nor (by omega) (fun ⟨_, cs, hb⟩ => hb.ne hSr.hex (by decide) rfl))) (by omega))
        have hS4 := hSr.move (st' := st.set kn (some T)) (c' := cnt (gs ++ kss q3)) hn hf4 (fun k h1 h2 h3 => nor (nor (by omega) (nor (by omega) (fun ⟨hk, cs, hb⟩ => by have := hno k cs hb (by omega) hk; omega))) (by omega)) hst4 hex3
        have hpk : ∀ k, n + 10 ≤ k → k ≤ n + 14 → k ≠ n + 14 → k ≠ n + 11 → ¬ ((k = n + 14 ∨ k = n + 11 ∨ (n ≤ k ∧ ∃ cs, Blk wr k cs 55)) ∨ k = n + 8) := fun k h1 h2 h3 h4 => nor (nor h3 (nor h4 (fun ⟨hk, cs, hb⟩ => by have := hno k cs hb (by omega) hk; omega))) (by omega)
        have hD4 : Drf (w3.setCell ⟨n + 8, kn, none⟩ (.pointer (some ⟨T, 0, none⟩))) n ((N + 1 : Nat) : Int) v3 (m ++ [(tk kn, .pointer (some ⟨T, 0, none⟩))]) (gs ++ kss q3) := by
          refine ⟨?_, hDr.p0.keep hf4 (hpk _ (by omega) (by omega) (by omega) (by omega)), hm3.keep hf34 (by omega), hDr.p2.keep hf4 (hpk _ (by omega) (by omega) (by omega) (by omega)), hDr.p3.keep hf4 (hpk _ (by omega) (by omega) (by omega) (by omega)), hnow3.keep hf34 (fun g cs ty hty hb => hb.ne hst3 (by rcases hty with h | h <;> rw [h] <;> decide))⟩
          have h1 := Blk.keep hD3 hf34 (by omega)
          exact h1
        have hql3 := hp3.length_eq
        have hInv : Inv w0 (w3.setCell ⟨n + 8, kn, none⟩ (.pointer (some ⟨T, 0, none⟩))) n (N + 1) v3 (m ++ [(tk kn, .pointer (some ⟨T, 0, none⟩))]) (gs ++ kss q3) (st.set kn (some T)) := by
          refine ⟨hS4, hD4, by simp [hl4], ?_, ?_, by simp [hml], ?_⟩
          · intro k hk
            rw [look_append, look_cons, look_nil]
            by_cases e : k = kn
            · subst e
              rw [hlkn]
              simp [hl4, hk]
            · rw [if_neg (fun h => e (tk_inj hk hkn4 h.symm)), hI.lk k hk, List.getElem?_set, if_neg (Ne.symm e)]
              simp
          · rw [count_set st kn T hsk, hI.ct]
          · simp
            omega
        exact HQ.out _ (N + 1) ⟨_, _, _, _, hInv⟩
end Go.Proofs.Ybulkuvc
