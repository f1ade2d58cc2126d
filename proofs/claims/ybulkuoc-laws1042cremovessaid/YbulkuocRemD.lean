/- LawS1042CRemoves, its fourth part: unblock. -/
import Derived.Test.YbulkuocRemC
namespace Go.Proofs.Ybulkuoc
open Go.RowKit

/-- A cell of the lists: v at list j (3: the upgraders), item q. -/
def wcellv (up : Bool) (mm xx : Nat) (v : Value) (j q : Nat) : Value := if (if up then j = 3 else j = mm) ∧ q = xx then v else .slice none 0 0

/-- What stands behind unblock(k). -/
structure FinIs (w : World) (R T L E len mm xx k : Nat) (up : Bool) (Wb : Nat → Nat) (rc tc : Array Value) (gl el : List Nat) : Prop where
  r : Blk w R rc 84
  r3 : rc[3]? = some (.slice (some ⟨T, 0, none⟩) (len + 1) (len + 1))
  r5 : ∀ j, j < 4 → rc[5 + j]? = some (.slice (some ⟨Wb j, 0, none⟩) 2 2)
  ws : ∀ j, j < 4 → Blk w (Wb j) #[wcellv up mm xx (.slice (some ⟨L, 0, none⟩) len (len + 1)) j 0, wcellv up mm xx (.slice (some ⟨L, 0, none⟩) len (len + 1)) j 1] 26
  l : Blk w L (ints gl) 3
  e : Blk w E (ints el) 3
  same : ∀ j, j < len → el[j]? = gl[j]?
  gb : ∀ j, j < len → ∃ v, gl[j]? = some v ∧ v < len + 1
  t : Blk w T tc 71
  place : ∀ j v, j < len → gl[j]? = some v → tc[v * 9 + 7]? = some (.int .i64 j)
  stat : ∀ v, v < len + 1 → tc[v * 9 + 1]? = some (.int .u8 (if v = k then 0 else 1))

theorem cond_jj {up : Bool} {mm jj : Nat} (h : jj = if up then 3 else mm) : (if up = true then jj = 3 else jj = mm) := by cases up <;> simpa using h
theorem cond_ne {up : Bool} {mm jj j : Nat} (h : jj = if up then 3 else mm) (hne : j ≠ jj) : ¬ (if up = true then j = 3 else j = mm) := by
  cases up <;> (simp at h; subst h; simpa using hne)
theorem wcell_hit {up : Bool} {mm xx L n j : Nat} (h : (if up = true then j = 3 else j = mm)) : wcell up mm xx L n j xx = .slice (some ⟨L, 0, none⟩) n n := if_pos ⟨h, rfl⟩
theorem wcell_miss {up : Bool} {mm xx L n j q : Nat} (h : q ≠ xx) : wcell up mm xx L n j q = .slice none 0 0 := if_neg (fun e => h e.2)
theorem wcell_out {up : Bool} {mm xx L n j q : Nat} (h : ¬ (if up = true then j = 3 else j = mm)) : wcell up mm xx L n j q = .slice none 0 0 := if_neg (fun e => h e.1)
theorem wcellv_hit {up : Bool} {mm xx j : Nat} {v : Value} (h : (if up = true then j = 3 else j = mm)) : wcellv up mm xx v j xx = v := if_pos ⟨h, rfl⟩
theorem wcellv_miss {up : Bool} {mm xx j q : Nat} {v : Value} (h : q ≠ xx) : wcellv up mm xx v j q = .slice none 0 0 := if_neg (fun e => h e.2)
theorem wcellv_out {up : Bool} {mm xx j q : Nat} {v : Value} (h : ¬ (if up = true then j = 3 else j = mm)) : wcellv up mm xx v j q = .slice none 0 0 := if_neg (fun e => h e.1)

theorem fin_mk {w : World} {R T L E len mm xx k p last jj q : Nat} {up : Bool} {Wb : Nat → Nat} {rc tc : Array Value} {pl el : List Nat} (hmm : mm < 3) (hxx : xx < 2) (hjj : jj = if up then 3 else mm) (hR : Blk w R rc 84)
    (r3 : rc[3]? = some (.slice (some ⟨T, 0, none⟩) (len + 1) (len + 1))) (r5 : ∀ j, j < 4 → rc[5 + j]? = some (.slice (some ⟨Wb j, 0, none⟩) 2 2))
    (hws : ∀ j, j < 4 → Blk w (Wb j) #[wcell up mm xx L (len + 1) j 0, wcell up mm xx L (len + 1) j 1] 26) (hinj : ∀ j k, j < 4 → k < 4 → Wb j = Wb k → j = k)
    (hL : Blk w L (ints pl) 3) (hE : Blk w E (ints el) 3) (hLE : L ≠ E) (hel : ∀ j, j < len → el[j]? = (pl.set p last)[j]?) (hT : Blk w T tc 71) (hts : tc.size = (len + 1) * 9) (htx : ∀ j v, pl[j]? = some v → Tx tc mm up v j)
    (hpl : PL (len + 1) pl) (hk : pl[p]? = some k) (hlast : pl[len]? = some last) (hkn : k < len + 1) (hln : last < len + 1) (hpn : p < len + 1) :
    FinIs ((unblocked w L T (Wb jj) (len + 1) k xx p last).drewN q) R T L E len mm xx k up Wb rc ((tc.setIfInBounds (last * 9 + 7) (.int .i64 p)).setIfInBounds (k * 9 + 1) (.int .u8 0)) (pl.set p last) el := by
  have hjj4 : jj < 4 := by rw [hjj]; split <;> omega
  have hD := hws jj hjj4
  have n1 : R ≠ L := hR.ne hL (by decide)
  have n2 : R ≠ T := hR.ne hT (by decide)
  have n3 : R ≠ Wb jj := hR.ne hD (by decide)
  have n4 : L ≠ T := hL.ne hT (by decide)
  have n5 : L ≠ Wb jj := hL.ne hD (by decide)
  have n6 : E ≠ T := hE.ne hT (by decide)
  have n7 : E ≠ Wb jj := hE.ne hD (by decide)
  have n8 : T ≠ Wb jj := hT.ne hD (by decide)
  have hset : ∀ j, j ≠ p → (pl.set p last)[j]? = pl[j]? := fun j hj => List.getElem?_set_ne (Ne.symm hj)
  have hsetp : (pl.set p last)[p]? = some last := by rw [List.getElem?_set_self (by rw [hpl.len]; exact hpn)]
  have key : ∀ {b : Nat} {cs : Array Value} {t : TypeId}, Blk w b cs t → b ≠ L → b ≠ T → b ≠ Wb jj → Blk ((unblocked w L T (Wb jj) (len + 1) k xx p last).drewN q) b cs t := fun {b cs t} h h1 h2 h3 => by
    refine Blk.drewN ?_ q
    unfold unblocked
    exact (((h.other h1 _).other h2 _).other h3 _).other h2 _
  refine ⟨?_, r3, r5, ?_, ?_, ?_, hel, ?_, ?_, ?_, ?_⟩
  · exact key hR n1 n2 n3
  · intro j hj
    by_cases e : j = jj
    · subst e
      have h5 := ((((hD.other (a := ⟨L, p, none⟩) (Ne.symm n5) (.int .i64 last)).other (a := ⟨T, last * 9 + 7, none⟩) (Ne.symm n8) (.int .i64 p)).set xx (.slice (some ⟨L, 0, none⟩) (len + 1 - 1) (len + 1))).other (a := ⟨T, k * 9 + 1, none⟩) (Ne.symm n8) (.int .u8 0)).drewN q
      have hcond := cond_jj hjj
      clear hD
      rcases (show xx = 0 ∨ xx = 1 from by omega) with rfl | rfl
      · rw [show (#[wcell up mm 0 L (len + 1) j 0, wcell up mm 0 L (len + 1) j 1] : Array Value).setIfInBounds 0 (.slice (some ⟨L, 0, none⟩) (len + 1 - 1) (len + 1)) = #[wcellv up mm 0 (.slice (some ⟨L, 0, none⟩) len (len + 1)) j 0, wcellv up mm 0 (.slice (some ⟨L, 0, none⟩) len (len + 1)) j 1] from by rw [wcellv_hit hcond, wcellv_miss (by omega), wcell_miss (q := 1) (by omega)]; rfl] at h5
        exact h5
      · rw [show (#[wcell up mm 1 L (len + 1) j 0, wcell up mm 1 L (len + 1) j 1] : Array Value).setIfInBounds 1 (.slice (some ⟨L, 0, none⟩) (len + 1 - 1) (len + 1)) = #[wcellv up mm 1 (.slice (some ⟨L, 0, none⟩) len (len + 1)) j 0, wcellv up mm 1 (.slice (some ⟨L, 0, none⟩) len (len + 1)) j 1] from by rw [wcellv_hit hcond, wcellv_miss (by omega), wcell_miss (q := 0) (by omega)]; rfl] at h5
        exact h5
    · have hcond := cond_ne hjj e
      have hj2 := hws j hj
      have m1 : Wb j ≠ L := hj2.ne hL (by decide)
      have m2 : Wb j ≠ T := hj2.ne hT (by decide)
      have m3 : Wb j ≠ Wb jj := fun e' => e (hinj j jj hj hjj4 e')
      have h5 := ((((hj2.other (a := ⟨L, p, none⟩) m1 (.int .i64 last)).other (a := ⟨T, last * 9 + 7, none⟩) m2 (.int .i64 p)).other (a := ⟨Wb jj, xx, none⟩) m3 (.slice (some ⟨L, 0, none⟩) (len + 1 - 1) (len + 1))).other (a := ⟨T, k * 9 + 1, none⟩) m2 (.int .u8 0)).drewN q
      rw [wcellv_out hcond, wcellv_out hcond]
      rw [wcell_out hcond, wcell_out hcond] at h5
      exact h5
  · have h5 := hL.set p (.int .i64 last)
    rw [ints_set] at h5
    refine Blk.drewN ?_ q
    unfold unblocked
    exact ((h5.other n4 _).other n5 _).other n4 _
  · exact key hE (Ne.symm hLE) n6 n7
  · intro j hj
    by_cases e : j = p
    · subst e; exact ⟨last, hsetp, hln⟩
    · obtain ⟨v, hv, hvn⟩ := hpl.get (i := j) (by omega)
      exact ⟨v, (hset j e).trans hv, hvn⟩
  · refine Blk.drewN ?_ q
    unfold unblocked
    exact ((((hT.other (Ne.symm n4) _).set (last * 9 + 7) _).other n8 _).set (k * 9 + 1) _)
  · intro j v hj hv
    rw [Array.getElem?_setIfInBounds_ne (by omega)]
    by_cases e : v = last
    · subst e
      have hjp : j = p := by
        refine Classical.byContradiction fun hne => ?_
        rw [hset j hne] at hv
        have := hpl.inj hv hlast
        omega
      subst hjp
      rw [Array.getElem?_setIfInBounds]
      simp
      omega
    · have hjp : j ≠ p := by
        rintro rfl
        rw [hsetp] at hv
        cases hv
        exact e rfl
      rw [hset j hjp] at hv
      rw [Array.getElem?_setIfInBounds_ne (by omega)]
      exact (htx j v hv).t7
  · intro v hv
    obtain ⟨j, hj⟩ := hpl.onto v hv
    have t1 := (htx j v hj).t1
    by_cases e : v = k
    · subst e
      rw [Array.getElem?_setIfInBounds]
      simp
      omega
    · rw [Array.getElem?_setIfInBounds_ne (by omega), Array.getElem?_setIfInBounds_ne (by omega), t1]
      simp [e]

theorem newImplicit_calls1 (len : Nat) (w : World) (hn : len ≤ 1024) :
    Calls Yba.prog 17 #[.int .i64 ((len : Int) + 1), .int .i64 0, .func (.func 18) #[] #[], .func (.func 18) #[] #[]] w fun e w' => ∃ gb ob nb, e = .returned (.pointer (some ⟨gb, 0, none⟩)) ∧ Below w.heap.size w w' ∧ Graph w' gb ob nb (len + 1) := by
  have h := newImplicit_calls (len + 1) w (by omega) (by omega)
  rw [show ((len + 1 : Nat) : Int) = (len : Int) + 1 from by omega] at h
  refine h.mono ?_
  rintro e w1 ⟨gb, a3, l3, c3, a4, l4, c4, a7, l7, c7, ob, lb, pb, nb, cs, rfl, hb1, g1, g2, g3, g4⟩
  exact ⟨gb, ob, nb, rfl, hb1, _, _, _, _, _, _, _, _, _, _, _, _, _, cs, g1, g2, g3, g4⟩

set_option maxRecDepth 100000 in
set_option maxHeartbeats 4000000 in
theorem phD (a0 : Option Addr) (len cap : Nat) (s : Nat) (m i : Int) (up : Bool) (w0 : World) (hlen : len ≤ 1024) (hs : s < 256)
    (hN : ∀ (R T L E mm xx k : Nat) (Wb : Nat → Nat) (rc tc : Array Value) (gl el : List Nat) (w : World) {x5 x6 x7 x8 x9 x12 x13 x14 x15 x16 x19 x20 x21 x23 x24 x25 x28 x29 x30 x31 x32 x33 x34 x35 x36 x37 x38 x39 x40 x41 x42 x43 x44 x45 x46 x47 x48 x49 x50 x51 x52 x53 x54 x55 x56 x57 x58 x59 x60 x61 x62 x63 x64 x65 x66 x67 x68 x69 x70 x71 x72 x73 x74 x75 x76 x77 x78 x79 x80 x81 x82 x83 x84 x85 x86 x87 x88 x89 x90 x91 x92 x93 x94 x95 x96 x97 x98 x99 x100 x101 x102 x103 x104 x105 x106 x107 x108 x109 x110 x111 x112 x113 x114 x115 x116 x117 x118 x119 x120 x121 x122 x123 x124 x125 x126 x127 x128 x129 x130 x131 x132 x133 x134 x135 x136 x137 x138 x139 x140 x141 x142 x143 x144 x145 x146 x147 x148 x149 x150 x151 x152 x153 x154 x155 x156 x157 x158 x159 x160 x161 x162 x163 x164 x165 x166 x167 x168 x169 x170 x171 x172 x173 x174 x175 x176 x177 x178 x179 x180 x181 x182 x183 x184 x185 x186 x187 x188 x189 x190 x191 x192 x193 x194 x195 x196 x197 x198 x199 x200 x201 x202 x203 x204 x205 x206 x207 x208 x209 x210 x211 x212 x213 x214 x215 x216 x217 x218 x219 x220 x221 x222 x223 x224 x225 x226 x227 x228 x229 x230 x231 x232 x233 x234 x235 x236 x237 x238 x239 x240 x241 x242 x243 x244 x245 x246 x247 x248 x249 x250 x251 x252 x253 x254 x255 x256 x257 x258 x259 x260 x261 x262 x263 x264 x265 x266 x267 x268 x269 x270 x271 x272 x273 x274 x275 x276 x277 x278 x279 x280 x281 x282 x283 x284 x285 x286 x287 x288 x289 x290 x291 x292 x293 x294 x295 x296 x297 x298 x299 x300 x301 x302 x303 x304 x305 x306 x307 x308 : Value}, mm < 3 → xx < 2 → k < len + 1 → Below w0.heap.size w0 w → FinIs w R T L E len mm xx k up Wb rc tc gl el → Code.wp Yba.prog (dropSeq 23 (Yba.f7.body.getD .skip)) (bodyPost Yba.prog Yba.f7 (fun e w' => e = .returned (.bool true) ∧ Below w0.heap.size w0 w')) ⟨#[.slice a0 len cap, .int .u8 (s : Nat), .int .u8 m, .int .u8 i, .bool up, x5, x6, x7, x8, x9, .bool false, .int .i64 (len + 1), x12, x13, x14, x15, x16, .int .u8 (mm : Nat), .int .i64 (xx : Nat), x19, x20, x21, .pointer (some ⟨R, 0, none⟩), x23, x24, x25, .int .i64 (k : Nat), .slice (some ⟨E, 0, none⟩) len len, x28, x29, x30, x31, x32, x33, x34, x35, x36, x37, x38, x39, x40, x41, x42, x43, x44, x45, x46, x47, x48, x49, x50, x51, x52, x53, x54, x55, x56, x57, x58, x59, x60, x61, x62, x63, x64, x65, x66, x67, x68, x69, x70, x71, x72, x73, x74, x75, x76, x77, x78, x79, x80, x81, x82, x83, x84, x85, x86, x87, x88, x89, x90, x91, x92, x93, x94, x95, x96, x97, x98, x99, x100, x101, x102, x103, x104, x105, x106, x107, x108, x109, x110, x111, x112, x113, x114, x115, x116, x117, x118, x119, x120, x121, x122, x123, x124, x125, x126, x127, x128, x129, x130, x131, x132, x133, x134, x135, x136, x137, x138, x139, x140, x141, x142, x143, x144, x145, x146, x147, x148, x149, x150, x151, x152, x153, x154, x155, x156, x157, x158, x159, x160, x161, x162, x163, x164, x165, x166, x167, x168, x169, x170, x171, x172, x173, x174, x175, x176, x177, x178, x179, x180, x181, x182, x183, x184, x185, x186, x187, x188, x189, x190, x191, x192, x193, x194, x195, x196, x197, x198, x199, x200, x201, x202, x203, x204, x205, x206, x207, x208, x209, x210, x211, x212, x213, x214, x215, x216, x217, x218, x219, x220, x221, x222, x223, x224, x225, x226, x227, x228, x229, x230, x231, x232, x233, x234, x235, x236, x237, x238, x239, x240, x241, x242, x243, x244, x245, x246, x247, x248, x249, x250, x251, x252, x253, x254, x255, x256, x257, x258, x259, x260, x261, x262, x263, x264, x265, x266, x267, x268, x269, x270, x271, x272, x273, x274, x275, x276, x277, x278, x279, x280, x281, x282, x283, x284, x285, x286, x287, x288, x289, x290, x291, x292, x293, x294, x295, x296, x297, x298, x299, x300, x301, x302, x303, x304, x305, x306, x307, x308], []⟩ w)
    (P T R I L mm xx : Nat) (Wb : Nat → Nat) (pl : List Nat) (tc rc : Array Value) (w : World) {x5 x6 x7 x8 x9 x13 x14 x15 x16 x20 x21 x23 x24 x25 x26 x27 x28 x29 x30 x31 x32 x33 x34 x35 x36 x37 x38 x39 x40 x41 x42 x43 x44 x45 x46 x47 x48 x49 x50 x51 x52 x53 x54 x55 x56 x57 x58 x59 x60 x61 x62 x63 x64 x65 x66 x67 x68 x69 x70 x71 x72 x73 x74 x75 x76 x77 x78 x79 x80 x81 x82 x83 x84 x85 x86 x87 x88 x89 x90 x91 x92 x93 x94 x95 x96 x97 x98 x99 x100 x101 x102 x103 x104 x105 x106 x107 x108 x109 x110 x111 x112 x113 x114 x115 x116 x117 x118 x119 x120 x121 x122 x123 x124 x125 x126 x127 x128 x129 x130 x131 x132 x133 x134 x135 x136 x137 x138 x139 x140 x141 x142 x143 x144 x145 x146 x147 x148 x149 x150 x151 x152 x153 x154 x155 x156 x157 x158 x159 x160 x161 x162 x163 x164 x165 x166 x167 x168 x169 x170 x171 x172 x173 x174 x175 x176 x177 x178 x179 x180 x181 x182 x183 x184 x185 x186 x187 x188 x189 x190 x191 x192 x193 x194 x195 x196 x197 x198 x199 x200 x201 x202 x203 x204 x205 x206 x207 x208 x209 x210 x211 x212 x213 x214 x215 x216 x217 x218 x219 x220 x221 x222 x223 x224 x225 x226 x227 x228 x229 x230 x231 x232 x233 x234 x235 x236 x237 x238 x239 x240 x241 x242 x243 x244 x245 x246 x247 x248 x249 x250 x251 x252 x253 x254 x255 x256 x257 x258 x259 x260 x261 x262 x263 x264 x265 x266 x267 x268 x269 x270 x271 x272 x273 x274 x275 x276 x277 x278 x279 x280 x281 x282 x283 x284 x285 x286 x287 x288 x289 x290 x291 x292 x293 x294 x295 x296 x297 x298 x299 x300 x301 x302 x303 x304 x305 x306 x307 x308 : Value} (hmm : mm < 3) (hxx : xx < 2) (hpl : PL (len + 1) pl) (_hP : w0.heap.size ≤ P) (hTb : w0.heap.size ≤ T) (hRb : w0.heap.size ≤ R) (hLb : w0.heap.size ≤ L) (hWb : ∀ j, j < 4 → w0.heap.size ≤ Wb j)
    (hbl : Below w0.heap.size w0 w) (hp : Blk w P (ints pl) 3) (hT : Blk w T tc 71) (hts : tc.size = (len + 1) * 9) (htx : ∀ j v, pl[j]? = some v → Tx tc mm up v j) (hrun : RunIs w R I T L (len + 1) mm xx up Wb rc) (hL : Blk w L (ints pl) 3) (hPL : P ≠ L) :
    Code.wp Yba.prog (dropSeq 16 (Yba.f7.body.getD .skip)) (bodyPost Yba.prog Yba.f7 (fun e w' => e = .returned (.bool true) ∧ Below w0.heap.size w0 w')) ⟨#[.slice a0 len cap, .int .u8 (s : Nat), .int .u8 m, .int .u8 i, .bool up, x5, x6, x7, x8, x9, .bool false, .int .i64 (len + 1), .slice (some ⟨P, 0, none⟩) (len + 1) (len + 1), x13, x14, x15, x16, .int .u8 (mm : Nat), .int .i64 (xx : Nat), .slice (some ⟨T, 0, none⟩) (len + 1) (len + 1), x20, x21, .pointer (some ⟨R, 0, none⟩), x23, x24, x25, x26, x27, x28, x29, x30, x31, x32, x33, x34, x35, x36, x37, x38, x39, x40, x41, x42, x43, x44, x45, x46, x47, x48, x49, x50, x51, x52, x53, x54, x55, x56, x57, x58, x59, x60, x61, x62, x63, x64, x65, x66, x67, x68, x69, x70, x71, x72, x73, x74, x75, x76, x77, x78, x79, x80, x81, x82, x83, x84, x85, x86, x87, x88, x89, x90, x91, x92, x93, x94, x95, x96, x97, x98, x99, x100, x101, x102, x103, x104, x105, x106, x107, x108, x109, x110, x111, x112, x113, x114, x115, x116, x117, x118, x119, x120, x121, x122, x123, x124, x125, x126, x127, x128, x129, x130, x131, x132, x133, x134, x135, x136, x137, x138, x139, x140, x141, x142, x143, x144, x145, x146, x147, x148, x149, x150, x151, x152, x153, x154, x155, x156, x157, x158, x159, x160, x161, x162, x163, x164, x165, x166, x167, x168, x169, x170, x171, x172, x173, x174, x175, x176, x177, x178, x179, x180, x181, x182, x183, x184, x185, x186, x187, x188, x189, x190, x191, x192, x193, x194, x195, x196, x197, x198, x199, x200, x201, x202, x203, x204, x205, x206, x207, x208, x209, x210, x211, x212, x213, x214, x215, x216, x217, x218, x219, x220, x221, x222, x223, x224, x225, x226, x227, x228, x229, x230, x231, x232, x233, x234, x235, x236, x237, x238, x239, x240, x241, x242, x243, x244, x245, x246, x247, x248, x249, x250, x251, x252, x253, x254, x255, x256, x257, x258, x259, x260, x261, x262, x263, x264, x265, x266, x267, x268, x269, x270, x271, x272, x273, x274, x275, x276, x277, x278, x279, x280, x281, x282, x283, x284, x285, x286, x287, x288, x289, x290, x291, x292, x293, x294, x295, x296, x297, x298, x299, x300, x301, x302, x303, x304, x305, x306, x307, x308], []⟩ w := by
  have HN := show Hid _ from hN
  have HTX : Hid (∀ j v, pl[j]? = some v → Tx tc mm up v j) := htx
  have HRun : Hid (RunIs w R I T L (len + 1) mm xx up Wb rc) := hrun
  clear hN htx hrun
  have hmk : ∀ w, (Instr.makeSlice 26 (.int .i64 (len : Int)) (.int .i64 (len : Int))).run Yba.prog w = .ok (.slice (some ⟨w.heap.size, 0, none⟩) len len) (w.alloc (.cells (madeCells #[.int .i64 0] len) 3)) :=
    fun w => run_make_row' 26 3 (.int .i64 0) 8 Yba.underlying26 info3r rfl .i64 .i64 len (by omega) (by omega) w
  obtain ⟨p, hpe, hpn⟩ : ∃ p : Nat, (s : Int) % ((len : Int) + 1) = (p : Int) ∧ p < len + 1 := ⟨s % (len + 1), by rw [Int.natCast_emod]; rfl, Nat.mod_lt _ (by omega)⟩
  obtain ⟨k, hk, hkn⟩ := hpl.get hpn
  obtain ⟨last, hlast, hlastn⟩ := hpl.get (i := len) (by omega)
  have f15 := HRun.out.r.free 15
  have c15 : w.cell? ⟨R, 15, none⟩ = some (rc[15]'HRun.out.r15) := HRun.out.r.cell (by simp)
  have hRlt := HRun.out.r.lt
  conv => arg 2; whnf
  go_wp2_with fail
  refine (newImplicit_calls1 len w hlen).mono ?_
  rintro e w1 ⟨gb, ob, nb, rfl, hb1, hG⟩
  have hlt := hb1.size
  have c15' : w1.cell? ⟨R, 15, none⟩ = some (rc[15]'HRun.out.r15) := (hb1.cell (by exact hRlt)).trans c15
  have f15' : w1.frozen? ⟨R, 15, none⟩ = false := (hb1.frozen (by exact hRlt)).trans f15
  have hp1 := hp.below hb1 hp.lt
  have hT1 := hT.below hb1 hT.lt
  have hL1 := hL.below hb1 hL.lt
  have hR1 := HRun.out.r.below hb1 HRun.out.r.lt
  have nPR : P ≠ R := hp.ne HRun.out.r (by decide)
  have nLR : L ≠ R := hL.ne HRun.out.r (by decide)
  have nTR : T ≠ R := hT.ne HRun.out.r (by decide)
  have nb1 : nb ≠ L := by
    obtain ⟨_, _, _, _, _, _, _, _, _, _, _, _, _, cs, _, _, g3, g4⟩ := hG
    rintro rfl
    have h1 := g3.cell (g4 0 (by omega))
    obtain ⟨v, hv, _⟩ := hpl.get (i := 0) (by omega)
    have h2 := hL1.cell (ints_at hv)
    rw [h1] at h2
    simp at h2
  have cP : w1.cell? ⟨P, p, none⟩ = some (.int .i64 k) := hp1.cell (ints_at hk)
  have cPl : w1.cell? ⟨P, len, none⟩ = some (.int .i64 last) := hp1.cell (ints_at hlast)
  obtain ⟨w3, hcp, hE3, ho3⟩ := copy_run (w := (w1.setCell ⟨R, 15, none⟩ (.pointer (some ⟨gb, 0, none⟩))).alloc (.cells (madeCells #[.int .i64 0] len) 3))
    (g := w1.heap.size) (o := 0) (dLen := len) (dCap := len) (sb := P) (so := 0) (sLen := len) (sCap := len + 1) (k := len) ((ints pl).toList.take len)
    (blk_here (by simp)) ((hp1.other nPR _).alloc _) (Nat.min_self _).symm (by simp [ints_size, hpl.len]) (fun j hj => by simp [hj]) (by simp [size_madeCells]) (fun v hv => by have := List.mem_of_mem_take hv; simp [ints] at this; obtain ⟨a, _, rfl⟩ := this; rfl) 3
  have hE4 : Blk w3 w1.heap.size (ints (pl.take len)) 3 := by
    have e : ((madeCells #[.int .i64 0] len).toList.take 0 ++ (ints pl).toList.take len ++ (madeCells #[.int .i64 0] len).toList.drop (0 + len)).toArray = ints (pl.take len) := by
      rw [List.drop_of_length_le (by simp [size_madeCells])]; simp [ints, List.map_take]
    rw [e] at hE3; exact hE3
  clear hE3
  have hp3 : Blk w3 P (ints pl) 3 := ho3.blk ((hp1.other nPR _).alloc _) (by have := hp1.lt; omega)
  have hT3 : Blk w3 T tc 71 := ho3.blk ((hT1.other nTR _).alloc _) (by have := hT1.lt; omega)
  have hL3 : Blk w3 L (ints pl) 3 := ho3.blk ((hL1.other nLR _).alloc _) (by have := hL1.lt; omega)
  have hR3 : Blk w3 R (rc.setIfInBounds 15 (.pointer (some ⟨gb, 0, none⟩))) 84 := ho3.blk ((hR1.set 15 _).alloc _) (by have := hR1.lt; omega)
  have HW3 : Hid ((∀ b cs t, Blk w b cs t → b ≠ R → Blk w3 b cs t) ∧ Graph w3 gb ob nb (len + 1) ∧ Below w0.heap.size w0 w3 ∧ L ≠ w1.heap.size ∧ P ≠ w1.heap.size ∧ nb ≠ w1.heap.size) := by
    refine ⟨fun b cs t h hne => ho3.blk (((h.below hb1 h.lt).other hne _).alloc _) (by have := h.lt; omega), ?_, ?_, by have := hL1.lt; omega, by have := hp1.lt; omega, ?_⟩
    · obtain ⟨c0, c1, c2, c3, c4, c5, c7, c9, d0, d1, d2, d3, d5, cs, q1, q2, q3, q4⟩ := hG
      have n1 := q1.ne hR1 (by decide)
      have n2 := q2.ne hR1 (by decide)
      have n3 := q3.ne hR1 (by decide)
      exact ⟨c0, c1, c2, c3, c4, c5, c7, c9, d0, d1, d2, d3, d5, cs, ho3.blk ((q1.other n1 _).alloc _) q1.old, ho3.blk ((q2.other n2 _).alloc _) q2.old, ho3.blk ((q3.other n3 _).alloc _) q3.old, q4⟩
    · have := hbl.size
      exact ((hbl.trans (hb1.mono hbl.size)).setCell (p := ⟨R, 15, none⟩) hRb _ |>.alloc (by simp; omega) _).trans (ho3.below (by omega))
    · obtain ⟨_, _, _, _, _, _, _, _, _, _, _, _, _, cs, _, _, g3, _⟩ := hG
      exact g3.old
  clear hG ho3
  dsimp only
  go_upto_if 174 with fail
  go_cut [27] from 175 to 182 (fun v w4 => v = .slice (some ⟨w1.heap.size, 0, none⟩) len len ∧ ∃ el : List Nat, Blk w4 w1.heap.size (ints el) 3 ∧ (∀ j, j < len → el[j]? = (pl.set p last)[j]?) ∧ (∀ b cs t, Blk w3 b cs t → b ≠ w1.heap.size → Blk w4 b cs t) ∧ Below w0.heap.size w0 w4)
  case first =>
    by_cases hpl1 : p < len
    · have c1 : w3.cell? ⟨w1.heap.size, p, none⟩ = some (.int .i64 k) := hE4.cell (ints_at (by simp [hpl1, hk]))
      have f1 := hE4.free p
      have c2 : w3.cell? ⟨P, len, none⟩ = some (.int .i64 last) := hp3.cell (ints_at hlast)
      have e1 : (p : Int) < (len : Int) := by omega
      go_wp2_with fail
      go_meet
      go_light
      refine ⟨rfl, (pl.take len).set p last, ?_, ?_, fun b cs t h hne => h.other hne _, HW3.out.2.2.1.setCell (p := ⟨w1.heap.size, p, none⟩) (by show w0.heap.size ≤ w1.heap.size; have := hbl.size; omega) _⟩
      · have h5 := hE4.set p (.int .i64 last)
        rw [ints_set] at h5
        exact h5
      · intro j hj
        simp only [List.getElem?_set, List.length_take, List.getElem?_take, hj, if_true]
        by_cases e : p = j
        · subst e; have h7 : p < len + 1 := (by omega); simp [hpl.len, hpl1, h7]
        · simp [e]
    · have e1 : ¬ (p : Int) < (len : Int) := by omega
      have ep : p = len := by omega
      go_wp2_with fail
      go_meet
      go_light
      refine ⟨rfl, pl.take len, hE4, ?_, fun b cs t h _ => h, HW3.out.2.2.1⟩
      intro j hj
      rw [List.getElem?_set_ne (by omega), List.getElem?_take, if_pos hj]
  case rest =>
    obtain ⟨hv27, el, hE5, hel, hk5, hbl5⟩ := hcut
    subst hv27
    rename_i hkk
    apply hkk
    have nRE : R ≠ w1.heap.size := by have := hR1.lt; omega
    have nTE : T ≠ w1.heap.size := by have := hT1.lt; omega
    have hR5 := hk5 _ _ _ hR3 nRE
    have hT5 := hk5 _ _ _ hT3 nTE
    have hL5 := hk5 _ _ _ hL3 HW3.out.2.2.2.1
    have hws5 : ∀ j, j < 4 → Blk wc (Wb j) #[wcell up mm xx L (len + 1) j 0, wcell up mm xx L (len + 1) j 1] 26 := fun j hj => by
      have h := HRun.out.ws j hj
      exact hk5 _ _ _ (HW3.out.1 _ _ _ h (h.ne HRun.out.r (by decide))) (by have := h.lt; omega)
    have hI5 : Blk wc I #[.int .i64 (xx : Int)] 3 := by
      have h := HRun.out.i
      exact hk5 _ _ _ (HW3.out.1 _ _ _ h (h.ne HRun.out.r (by decide))) (by have := h.lt; omega)
    have hG5 : Graph wc gb ob nb (len + 1) := by
      obtain ⟨c0, c1, c2, c3, c4, c5, c7, c9, d0, d1, d2, d3, d5, cs, q1, q2, q3, q4⟩ := HW3.out.2.1
      exact ⟨c0, c1, c2, c3, c4, c5, c7, c9, d0, d1, d2, d3, d5, cs, hk5 _ _ _ q1 (q1.ne hE4 (by decide)), hk5 _ _ _ q2 (q2.ne hE4 (by decide)), hk5 _ _ _ q3 HW3.out.2.2.2.2.2, q4⟩
    have g1 : (rc.setIfInBounds 15 (.pointer (some ⟨gb, 0, none⟩)))[1]? = some (.slice (some ⟨I, 0, none⟩) 1 1) := by rw [Array.getElem?_setIfInBounds_ne (by omega)]; exact HRun.out.r1
    have g3 : (rc.setIfInBounds 15 (.pointer (some ⟨gb, 0, none⟩)))[3]? = some (.slice (some ⟨T, 0, none⟩) (len + 1) (len + 1)) := by rw [Array.getElem?_setIfInBounds_ne (by omega)]; exact HRun.out.r3
    have g5 : ∀ j, j < 4 → (rc.setIfInBounds 15 (.pointer (some ⟨gb, 0, none⟩)))[5 + j]? = some (.slice (some ⟨Wb j, 0, none⟩) 2 2) := fun j hj => by rw [Array.getElem?_setIfInBounds_ne (by omega)]; exact HRun.out.r5 j hj
    have g15 : (rc.setIfInBounds 15 (.pointer (some ⟨gb, 0, none⟩)))[15]? = some (.pointer (some ⟨gb, 0, none⟩)) := by rw [Array.getElem?_setIfInBounds]; simp [HRun.out.r15]
    have htk := HTX.out p k hk
    obtain ⟨jj, hjj, hjj4⟩ : ∃ jj, (jj = if up then 3 else mm) ∧ jj < 4 := ⟨_, rfl, by split <;> omega⟩
    have hdc : (#[wcell up mm xx L (len + 1) jj 0, wcell up mm xx L (len + 1) jj 1] : Array Value)[xx]? = some (.slice (some ⟨L, 0, none⟩) (len + 1) (len + 1)) := by
      have hcond := cond_jj hjj
      match xx, hxx with
      | 0, _ => rw [wcell_hit hcond]; rfl
      | 1, _ => rw [wcell_hit hcond]; rfl
    have hwo : Calls Yba.prog 34 #[.pointer (some ⟨R, 0, none⟩), .int .i64 k] wc fun e w' => e = .returned (.pointer (some ⟨Wb jj, xx, none⟩)) ∧ ∃ q, w' = wc.drewN q := by
      cases up with
      | true => have ej : jj = 3 := hjj
                rw [ej]; exact waitersOf_up wc R T I (Wb 3) (len + 1) k xx _ tc hR5 g1 g3 (g5 3 (by omega)) hI5 hT5 hkn hxx htk.t2 htk.t4
      | false => have ej : jj = mm := hjj
                 rw [ej]; exact waitersOf_plain wc R T I (Wb mm) (len + 1) k xx mm _ tc hR5 g1 g3 hmm (g5 mm (by omega)) hI5 hT5 hkn hxx htk.t2 htk.t3 htk.t4
    have hun := unblock_calls wc R T (Wb jj) L (len + 1) k xx p last gb ob nb _ tc _ (ints pl) hR5 g3 g15 hT5 (hws5 jj hjj4) hL5 (by omega) hkn hpn hlastn hts (by rw [ints_size, hpl.len]) htk.t7 hdc (ints_at (by simpa using hlast)) hG5 nb1 hwo
    have hfin : ∀ q, FinIs ((unblocked wc L T (Wb jj) (len + 1) k xx p last).drewN q) R T L w1.heap.size len mm xx k up Wb (rc.setIfInBounds 15 (.pointer (some ⟨gb, 0, none⟩))) ((tc.setIfInBounds (last * 9 + 7) (.int .i64 p)).setIfInBounds (k * 9 + 1) (.int .u8 0)) (pl.set p last) el :=
      fun q => fin_mk hmm hxx hjj hR5 g3 g5 hws5 HRun.out.inj hL5 hE5 HW3.out.2.2.2.1 hel hT5 hts HTX.out hpl hk hlast hkn hlastn hpn
    have hbl6 : ∀ q, Below w0.heap.size w0 ((unblocked wc L T (Wb jj) (len + 1) k xx p last).drewN q) := fun q => by
      have h := (((hbl5.setCell (p := ⟨L, p, none⟩) hLb (.int .i64 last)).setCell (p := ⟨T, last * 9 + 7, none⟩) hTb (.int .i64 p)).setCell (p := ⟨Wb jj, xx, none⟩) (hWb jj hjj4) (.slice (some ⟨L, 0, none⟩) (len + 1 - 1) (len + 1))).setCell (p := ⟨T, k * 9 + 1, none⟩) hTb (.int .u8 0)
      exact ⟨h.os, h.tape, h.output, h.size, h.block⟩
    have HUN := show Hid (Calls Yba.prog 19 #[.pointer (some ⟨R, 0, none⟩), .int .i64 k] wc fun e w' => e = .returned (.tuple #[]) ∧ ∃ q, w' = (unblocked wc L T (Wb jj) (len + 1) k xx p last).drewN q) from hun
    have HF := show Hid (∀ q, FinIs ((unblocked wc L T (Wb jj) (len + 1) k xx p last).drewN q) R T L w1.heap.size len mm xx k up Wb (rc.setIfInBounds 15 (.pointer (some ⟨gb, 0, none⟩))) ((tc.setIfInBounds (last * 9 + 7) (.int .i64 p)).setIfInBounds (k * 9 + 1) (.int .u8 0)) (pl.set p last) el) from hfin
    clear hun hfin hwo hdc htk g1 g3 g5 g15 hG5 hI5 hws5 hL5 hT5 hR5
    go_upto_region 44 with fail
    go_cut [28] from 183 to 185 (fun _ w5 => ∃ q, w5 = (unblocked wc L T (Wb jj) (len + 1) k xx p last).drewN q)
    case first =>
      go_wp2_with fail
      refine HUN.out.mono ?_
      rintro e w5 ⟨rfl, q, hw5⟩
      dsimp only
      go_wp2_with fail
      go_meet
      exact ⟨q, hw5⟩
    case rest =>
      obtain ⟨q, hq⟩ := hcut
      subst hq
      rename_i hkk2
      apply hkk2
      exact HN.out R T L _ mm xx k Wb _ _ _ el _ hmm hxx hkn (hbl6 q) (HF.out q)

end Go.Proofs.Ybulkuoc
