/- LawS1042CRemoves, its second part: the transactions. -/
import Derived.Test.YbulkuocRemA
import Derived.Maps.RangeWalk
namespace Go.Proofs.Ybulkuoc
open Go.RowKit

/-- What the row of transactions holds of transaction v, the j-th waiter. -/
structure Tx (tc : Array Value) (mm : Nat) (up : Bool) (v j : Nat) : Prop where
  t1 : tc[v * 9 + 1]? = some (.int .u8 1)
  t2 : tc[v * 9 + 2]? = some (.int .i64 0)
  t3 : tc[v * 9 + 3]? = some (.int .u8 mm)
  t4 : tc[v * 9 + 4]? = some (.bool up)
  t7 : tc[v * 9 + 7]? = some (.int .i64 j)

theorem info71 : (Yba.prog.info? 71).map (fun i => (i.zero, i.size, i.bytes)) = some (some (.agg #[.int .i64 0, .int .u8 0, .int .i64 0, .int .u8 0, .bool false, .slice none 0 0, .int .i64 0, .int .i64 0, .bool false]), 9, 80) := by kernel_rfl
theorem info71s : (Yba.prog.info? 71).map (·.size) = some 9 := by kernel_rfl
theorem build71 (a c e : Int) (b : Bool) (w : World) : (Instr.build 71 #[(0, .int .i64 a), (1, .int .u8 1), (2, .int .i64 0), (3, .int .u8 c), (4, .bool b), (7, .int .i64 e)]).run Yba.prog w =
    .ok (.agg #[.int .i64 a, .int .u8 1, .int .i64 0, .int .u8 c, .bool b, .slice none 0 0, .int .i64 0, .int .i64 e, .bool false]) w := run_build w 71 _ _ (by kernel_rfl)

/-- A struct of nine cells stored into the row of transactions. -/
theorem store_txn {w : World} {T v n : Nat} {tc : Array Value} (hT : Blk w T tc 71) (hs : tc.size = n * 9) (hv : v < n) (cs : Array Value) (h9 : cs.size = 9) (h1 : cs.all (·.oneCell') = true) :
    ∃ w' tc', (Instr.storeAt 71 (.pointer (some ⟨T, v * 9, none⟩)) (.agg cs)).run Yba.prog w = .ok () w' ∧ Blk w' T tc' 71 ∧ tc'.size = n * 9 ∧ Only w w' T ∧
      (∀ q, q < 9 → tc'[v * 9 + q]? = cs[q]?) ∧ ∀ q, q < v * 9 ∨ v * 9 + 9 ≤ q → tc'[q]? = tc[q]? := by
  have ht : w.there T (v * 9) cs.size := by
    intro j hj
    refine ⟨?_, hT.free _⟩
    rw [hT.cell?, Array.getElem?_eq_getElem (by omega)]
    rfl
  have hrun := run_storeAt_mid (P := Yba.prog) w T (v * 9) 71 cs ht (by rw [info71s, h9]) h1
  have hset : ∀ (l : List Value) (o : Nat) (w : World) (tc : Array Value), Blk w T tc 71 → o + l.length ≤ tc.size → ∃ tc', Blk (w.setCells T o l) T tc' 71 ∧ tc'.size = tc.size ∧ Only w (w.setCells T o l) T ∧
      (∀ q, q < l.length → tc'[o + q]? = l[q]?) ∧ ∀ q, q < o ∨ o + l.length ≤ q → tc'[q]? = tc[q]? := by
    intro l
    induction l with
    | nil => intro o w tc h _; exact ⟨tc, h, rfl, ⟨rfl, rfl, rfl, rfl, fun _ _ => rfl⟩, fun q hq => absurd hq (Nat.not_lt_zero _), fun _ _ => rfl⟩
    | cons x l ih =>
      intro o w tc h hf
      simp only [List.length_cons] at hf
      obtain ⟨tc', q1, q2, q3, q4, q5⟩ := ih (o + 1) (w.setCell ⟨T, o, none⟩ x) (tc.setIfInBounds o x) (h.set o x) (by simp; omega)
      refine ⟨tc', q1, by rw [q2]; simp, ⟨q3.os, q3.tape, q3.output, q3.size.trans (by simp [World.setCell]), fun k hk => (q3.block k hk).trans (Below.heap_setCell _ _ _ _ hk)⟩, ?_, ?_⟩
      · intro q hq
        cases q with
        | zero => rw [Nat.add_zero, q5 o (by omega), Array.getElem?_setIfInBounds]; simp; omega
        | succ q => simp only [List.length_cons] at hq; rw [show o + (q + 1) = o + 1 + q by omega, q4 q (by omega)]; rfl
      · intro q hq
        simp only [List.length_cons] at hq
        rw [q5 q (by omega), Array.getElem?_setIfInBounds_ne (by omega)]
  obtain ⟨tc', q1, q2, q3, q4, q5⟩ := hset cs.toList (v * 9) w tc hT (by simp; omega)
  refine ⟨_, tc', hrun, q1, q2.trans hs, q3, ?_, ?_⟩
  · intro q hq; rw [q4 q (by simp; omega)]; simp
  · intro q hq; exact q5 q (by simp; omega)

theorem wpList_store_run {P : Program} {ops : Array Oper} {rest : List Oper} {o : Oper} {a : Act} {Q : Exit → Act → World → Prop} {w w' : World} {t : TypeId} {vx vy : Value} (hgd : o.guard = none) (x y : Operand) (ho : o.op = .store t x y)
    (hx : a.eval x = vx) (hy : a.eval y = vy) (hrun : (Instr.storeAt t vx vy).run P w = .ok () w') (h : wpList P ops Q rest (a.put o.dst undef) w') : wpList P ops Q (o :: rest) a w := by
  refine wpList_plain hgd fun K hK => ?_
  unfold Oper.wp execOp
  simp only [ho, hx, hy, Sem.run_bind, hrun, Result.andThen_ok]
  exact hK _ _ h

theorem Tx.keep {tc tc' : Array Value} {mm : Nat} {up : Bool} {v v' j : Nat} (h : Tx tc mm up v' j) (hne : v' ≠ v) (hk : ∀ q, q < v * 9 ∨ v * 9 + 9 ≤ q → tc'[q]? = tc[q]?) : Tx tc' mm up v' j :=
  ⟨by rw [hk _ (by omega)]; exact h.t1, by rw [hk _ (by omega)]; exact h.t2, by rw [hk _ (by omega)]; exact h.t3, by rw [hk _ (by omega)]; exact h.t4, by rw [hk _ (by omega)]; exact h.t7⟩

set_option maxRecDepth 100000 in
set_option maxHeartbeats 2000000 in
theorem phB (a0 : Option Addr) (len cap : Nat) (s i : Int) (m : Nat) (up : Bool) (w0 : World) (hlen : len ≤ 1024) (hm : m < 256) (i0 : 0 ≤ i) (i1 : i < 256)
    (hN : ∀ (P T mm xx : Nat) (pl : List Nat) (tc : Array Value) (w : World) {x5 x6 x7 x8 x9 x13 x14 x15 x16 x20 x21 x22 x23 x24 x25 x26 x27 x28 x29 x30 x31 x32 x33 x34 x35 x36 x37 x38 x39 x40 x41 x42 x43 x44 x45 x46 x47 x48 x49 x50 x51 x52 x53 x54 x55 x56 x57 x58 x59 x60 x61 x62 x63 x64 x65 x66 x67 x68 x69 x70 x71 x72 x73 x74 x75 x76 x77 x78 x79 x80 x81 x82 x83 x84 x85 x86 x87 x88 x89 x90 x91 x92 x93 x94 x95 x96 x97 x98 x99 x100 x101 x102 x103 x104 x105 x106 x107 x108 x109 x110 x111 x112 x113 x114 x115 x116 x117 x118 x119 x120 x121 x122 x123 x124 x125 x126 x127 x128 x129 x130 x131 x132 x133 x134 x135 x136 x137 x138 x139 x140 x141 x142 x143 x144 x145 x146 x147 x148 x149 x150 x151 x152 x153 x154 x155 x156 x157 x158 x159 x160 x161 x162 x163 x164 x165 x166 x167 x168 x169 x170 x171 x172 x173 x174 x175 x176 x177 x178 x179 x180 x181 x182 x183 x184 x185 x186 x187 x188 x189 x190 x191 x192 x193 x194 x195 x196 x197 x198 x199 x200 x201 x202 x203 x204 x205 x206 x207 x208 x209 x210 x211 x212 x213 x214 x215 x216 x217 x218 x219 x220 x221 x222 x223 x224 x225 x226 x227 x228 x229 x230 x231 x232 x233 x234 x235 x236 x237 x238 x239 x240 x241 x242 x243 x244 x245 x246 x247 x248 x249 x250 x251 x252 x253 x254 x255 x256 x257 x258 x259 x260 x261 x262 x263 x264 x265 x266 x267 x268 x269 x270 x271 x272 x273 x274 x275 x276 x277 x278 x279 x280 x281 x282 x283 x284 x285 x286 x287 x288 x289 x290 x291 x292 x293 x294 x295 x296 x297 x298 x299 x300 x301 x302 x303 x304 x305 x306 x307 x308 : Value}, mm < 3 → xx < 2 → PL (len + 1) pl → w0.heap.size ≤ P → w0.heap.size ≤ T → Below w0.heap.size w0 w → Blk w P (ints pl) 3 → Blk w T tc 71 → tc.size = (len + 1) * 9 →
      (∀ j v, pl[j]? = some v → Tx tc mm up v j) → Code.wp Yba.prog (dropSeq 10 (Yba.f7.body.getD .skip)) (bodyPost Yba.prog Yba.f7 (fun e w' => e = .returned (.bool true) ∧ Below w0.heap.size w0 w')) ⟨#[.slice a0 len cap, .int .u8 s, .int .u8 m, .int .u8 i, .bool up, x5, x6, x7, x8, x9, .bool false, .int .i64 (len + 1), .slice (some ⟨P, 0, none⟩) (len + 1) (len + 1), x13, x14, x15, x16, .int .u8 (mm : Nat), .int .i64 (xx : Nat), .slice (some ⟨T, 0, none⟩) (len + 1) (len + 1), x20, x21, x22, x23, x24, x25, x26, x27, x28, x29, x30, x31, x32, x33, x34, x35, x36, x37, x38, x39, x40, x41, x42, x43, x44, x45, x46, x47, x48, x49, x50, x51, x52, x53, x54, x55, x56, x57, x58, x59, x60, x61, x62, x63, x64, x65, x66, x67, x68, x69, x70, x71, x72, x73, x74, x75, x76, x77, x78, x79, x80, x81, x82, x83, x84, x85, x86, x87, x88, x89, x90, x91, x92, x93, x94, x95, x96, x97, x98, x99, x100, x101, x102, x103, x104, x105, x106, x107, x108, x109, x110, x111, x112, x113, x114, x115, x116, x117, x118, x119, x120, x121, x122, x123, x124, x125, x126, x127, x128, x129, x130, x131, x132, x133, x134, x135, x136, x137, x138, x139, x140, x141, x142, x143, x144, x145, x146, x147, x148, x149, x150, x151, x152, x153, x154, x155, x156, x157, x158, x159, x160, x161, x162, x163, x164, x165, x166, x167, x168, x169, x170, x171, x172, x173, x174, x175, x176, x177, x178, x179, x180, x181, x182, x183, x184, x185, x186, x187, x188, x189, x190, x191, x192, x193, x194, x195, x196, x197, x198, x199, x200, x201, x202, x203, x204, x205, x206, x207, x208, x209, x210, x211, x212, x213, x214, x215, x216, x217, x218, x219, x220, x221, x222, x223, x224, x225, x226, x227, x228, x229, x230, x231, x232, x233, x234, x235, x236, x237, x238, x239, x240, x241, x242, x243, x244, x245, x246, x247, x248, x249, x250, x251, x252, x253, x254, x255, x256, x257, x258, x259, x260, x261, x262, x263, x264, x265, x266, x267, x268, x269, x270, x271, x272, x273, x274, x275, x276, x277, x278, x279, x280, x281, x282, x283, x284, x285, x286, x287, x288, x289, x290, x291, x292, x293, x294, x295, x296, x297, x298, x299, x300, x301, x302, x303, x304, x305, x306, x307, x308], []⟩ w)
    (P : Nat) (pl : List Nat) (w : World) {x5 x6 x7 x8 x9 x13 x14 x15 x16 x17 x18 x19 x20 x21 x22 x23 x24 x25 x26 x27 x28 x29 x30 x31 x32 x33 x34 x35 x36 x37 x38 x39 x40 x41 x42 x43 x44 x45 x46 x47 x48 x49 x50 x51 x52 x53 x54 x55 x56 x57 x58 x59 x60 x61 x62 x63 x64 x65 x66 x67 x68 x69 x70 x71 x72 x73 x74 x75 x76 x77 x78 x79 x80 x81 x82 x83 x84 x85 x86 x87 x88 x89 x90 x91 x92 x93 x94 x95 x96 x97 x98 x99 x100 x101 x102 x103 x104 x105 x106 x107 x108 x109 x110 x111 x112 x113 x114 x115 x116 x117 x118 x119 x120 x121 x122 x123 x124 x125 x126 x127 x128 x129 x130 x131 x132 x133 x134 x135 x136 x137 x138 x139 x140 x141 x142 x143 x144 x145 x146 x147 x148 x149 x150 x151 x152 x153 x154 x155 x156 x157 x158 x159 x160 x161 x162 x163 x164 x165 x166 x167 x168 x169 x170 x171 x172 x173 x174 x175 x176 x177 x178 x179 x180 x181 x182 x183 x184 x185 x186 x187 x188 x189 x190 x191 x192 x193 x194 x195 x196 x197 x198 x199 x200 x201 x202 x203 x204 x205 x206 x207 x208 x209 x210 x211 x212 x213 x214 x215 x216 x217 x218 x219 x220 x221 x222 x223 x224 x225 x226 x227 x228 x229 x230 x231 x232 x233 x234 x235 x236 x237 x238 x239 x240 x241 x242 x243 x244 x245 x246 x247 x248 x249 x250 x251 x252 x253 x254 x255 x256 x257 x258 x259 x260 x261 x262 x263 x264 x265 x266 x267 x268 x269 x270 x271 x272 x273 x274 x275 x276 x277 x278 x279 x280 x281 x282 x283 x284 x285 x286 x287 x288 x289 x290 x291 x292 x293 x294 x295 x296 x297 x298 x299 x300 x301 x302 x303 x304 x305 x306 x307 x308 : Value} (hpl : PL (len + 1) pl) (hP : w0.heap.size ≤ P) (hbl : Below w0.heap.size w0 w) (hp : Blk w P (ints pl) 3) :
    Code.wp Yba.prog (dropSeq 6 (Yba.f7.body.getD .skip)) (bodyPost Yba.prog Yba.f7 (fun e w' => e = .returned (.bool true) ∧ Below w0.heap.size w0 w')) ⟨#[.slice a0 len cap, .int .u8 s, .int .u8 (m : Nat), .int .u8 i, .bool up, x5, x6, x7, x8, x9, .bool false, .int .i64 (len + 1), .slice (some ⟨P, 0, none⟩) (len + 1) (len + 1), x13, x14, x15, x16, x17, x18, x19, x20, x21, x22, x23, x24, x25, x26, x27, x28, x29, x30, x31, x32, x33, x34, x35, x36, x37, x38, x39, x40, x41, x42, x43, x44, x45, x46, x47, x48, x49, x50, x51, x52, x53, x54, x55, x56, x57, x58, x59, x60, x61, x62, x63, x64, x65, x66, x67, x68, x69, x70, x71, x72, x73, x74, x75, x76, x77, x78, x79, x80, x81, x82, x83, x84, x85, x86, x87, x88, x89, x90, x91, x92, x93, x94, x95, x96, x97, x98, x99, x100, x101, x102, x103, x104, x105, x106, x107, x108, x109, x110, x111, x112, x113, x114, x115, x116, x117, x118, x119, x120, x121, x122, x123, x124, x125, x126, x127, x128, x129, x130, x131, x132, x133, x134, x135, x136, x137, x138, x139, x140, x141, x142, x143, x144, x145, x146, x147, x148, x149, x150, x151, x152, x153, x154, x155, x156, x157, x158, x159, x160, x161, x162, x163, x164, x165, x166, x167, x168, x169, x170, x171, x172, x173, x174, x175, x176, x177, x178, x179, x180, x181, x182, x183, x184, x185, x186, x187, x188, x189, x190, x191, x192, x193, x194, x195, x196, x197, x198, x199, x200, x201, x202, x203, x204, x205, x206, x207, x208, x209, x210, x211, x212, x213, x214, x215, x216, x217, x218, x219, x220, x221, x222, x223, x224, x225, x226, x227, x228, x229, x230, x231, x232, x233, x234, x235, x236, x237, x238, x239, x240, x241, x242, x243, x244, x245, x246, x247, x248, x249, x250, x251, x252, x253, x254, x255, x256, x257, x258, x259, x260, x261, x262, x263, x264, x265, x266, x267, x268, x269, x270, x271, x272, x273, x274, x275, x276, x277, x278, x279, x280, x281, x282, x283, x284, x285, x286, x287, x288, x289, x290, x291, x292, x293, x294, x295, x296, x297, x298, x299, x300, x301, x302, x303, x304, x305, x306, x307, x308], []⟩ w := by
  have HN := show Hid _ from hN
  clear hN
  obtain ⟨i0', hi, hz0, hz1, hz2⟩ := info_parts info71
  have hmk : ∀ w, (Instr.makeSlice 68 (.int .i64 ((len : Int) + 1)) (.int .i64 ((len : Int) + 1))).run Yba.prog w = .ok (.slice (some ⟨w.heap.size, 0, none⟩) (len + 1) (len + 1)) (w.alloc (.cells (madeCells #[.int .i64 0, .int .u8 0, .int .i64 0, .int .u8 0, .bool false, .slice none 0 0, .int .i64 0, .int .i64 0, .bool false] ((len + 1) * 9)) 71)) := by
    intro w
    have h := run_make (P := Yba.prog) w 68 71 i0' _ Yba.underlying68 hi hz0 .i64 .i64 ((len + 1 : Nat) : Int) ((len + 1 : Nat) : Int) (by omega) (by omega) (by rw [hz2]; omega) (by omega)
    rw [hz1] at h
    simpa [Value.cells] using h
  have hbd := build71
  obtain ⟨mm, hmm, hmm3⟩ : ∃ mm : Nat, (m : Int) % 3 = (mm : Int) ∧ mm < 3 := ⟨m % 3, by omega, by omega⟩
  obtain ⟨xx, hxx, hxx2⟩ : ∃ xx : Nat, i % 2 = (xx : Int) ∧ xx < 2 := ⟨(i % 2).toNat, by omega, by omega⟩
  conv => arg 2; whnf
  go_upto_block 4 with fail
  go_cut [20, 21] from 94 to 107 (fun _ _ wc => ∃ tc : Array Value, Below w0.heap.size w0 wc ∧ Blk wc P (ints pl) 3 ∧ Blk wc w.heap.size tc 71 ∧ tc.size = (len + 1) * 9 ∧ ∀ j v, pl[j]? = some v → Tx tc mm up v j)
  case rest =>
    obtain ⟨tc, q1, q2, q3, q4, q5⟩ := hcut
    rename_i hk
    apply hk
    rw [hxx]
    exact HN.out P _ mm xx pl tc wc hmm3 hxx2 hpl hP hbl.size q1 q2 q3 q4 q5
  case first =>
    have hpT : P ≠ w.heap.size := hp.old
    have hsz0 := hbl.size
    go_wp2_with fail
    go_loopw [94] (fun q wr => ∃ (k : Nat) (tc : Array Value), k ≤ len + 1 ∧ q = .int .i64 k ∧ Below w0.heap.size w0 wr ∧ Blk wr P (ints pl) 3 ∧ Blk wr w.heap.size tc 71 ∧ tc.size = (len + 1) * 9 ∧ ∀ j v, j < k → pl[j]? = some v → Tx tc mm up v j) (fun q _ => len + 1 - (intOf q).toNat)
    case atStart => exact ⟨0, _, Nat.zero_le _, rfl, hbl.alloc hbl.size _, hp.alloc _, Blk.new _ _ _, by simp [size_madeCells], fun j v hj => absurd hj (Nat.not_lt_zero _)⟩
    case round =>
      clear hbl hp
      obtain ⟨k, tc, hk, rfl, hbl, hp, hT, hts, htx⟩ := hrel
      have HTX : Hid (∀ j v, j < k → pl[j]? = some v → Tx tc mm up v j) := htx
      clear htx
      by_cases hlt : k < len + 1
      · obtain ⟨v, hv, hvn⟩ := hpl.get hlt
        have c0 : wr.cell? ⟨P, k, none⟩ = some (.int .i64 v) := hp.cell (ints_at hv)
        obtain ⟨w2, tc', hst, q1, q2, q3, q4, q5⟩ := store_txn hT hts hvn #[.int .i64 v, .int .u8 1, .int .i64 0, .int .u8 mm, .bool up, .slice none 0 0, .int .i64 0, .int .i64 k, .bool false] rfl (by simp [Value.oneCell'])
        have e1 : (k : Int) < (len : Int) + 1 := by omega
        have e2 : (v : Int) < (len : Int) + 1 := by omega
        have HV : Hid (pl[k]? = some v) := hv
        have HQ : Hid ((∀ q, q < 9 → tc'[v * 9 + q]? = #[Value.int .i64 v, .int .u8 1, .int .i64 0, .int .u8 mm, .bool up, .slice none 0 0, .int .i64 0, .int .i64 k, .bool false][q]?) ∧ ∀ q, q < v * 9 ∨ v * 9 + 9 ≤ q → tc'[q]? = tc[q]?) := ⟨q4, q5⟩
        clear hv q4 q5
        go_wp2_with (refine wpList_store_run rfl (.tmp 106) (.tmp 105) rfl rfl rfl hst ?_; go_frame)
        go_roundw
        case rel =>
          go_light
          refine ⟨k + 1, tc', by omega, by go_num, hbl.trans (q3.below hsz0), q3.blk hp hpT, q1, q2, ?_⟩
          intro j v' hj hv'
          by_cases e : v' = v
          · subst e
            have hjk : j = k := hpl.inj hv' HV.out
            subst hjk
            exact ⟨HQ.out.1 1 (by omega), HQ.out.1 2 (by omega), HQ.out.1 3 (by omega), HQ.out.1 4 (by omega), HQ.out.1 7 (by omega)⟩
          · have hjk : j ≠ k := fun e' => by subst e'; rw [HV.out] at hv'; cases hv'; exact e rfl
            exact (HTX.out j v' (by omega) hv').keep e HQ.out.2
        case measure => simp [intOf]; omega
      · go_wp2_with fail
        go_meet
        refine ⟨tc, hbl, hp, hT, hts, fun j v hv => HTX.out j v ?_ hv⟩
        have := (List.getElem?_eq_some_iff.1 hv).1
        rw [hpl.len] at this
        omega

end Go.Proofs.Ybulkuoc
