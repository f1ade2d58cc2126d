/- LawS1055BCommit, its last part: what the tables and the counts hold. -/
import Derived.Test.YbulkuvcLawA
import Derived.Test.YbulkuvcCommitCopy
import Derived.Deep.QuietTactic
import Derived.BigQuiet
import Derived.LaidEqlPtr
namespace Go.Proofs.Ybulkuvc
open Go.RowKit Go.Maps Go.WideMaps

def dk (n : Nat) : ByteArray := ⟨#[(48 + n).toUInt8]⟩
def tk (n : Nat) : ByteArray := ⟨#[116, (48 + n).toUInt8]⟩
theorem sub_nk0 (w : World) : (Instr.sliceAt 9 (.string ⟨#[97, 98, 99, 100]⟩) (some (.int .i64 ((0 : Nat) : Int))) (some (.int .i64 (((0 : Nat) : Int) + 1))) none).run Yba.prog w = .ok (.string (nk 0)) w := by kernel_rfl
theorem sub_nk1 (w : World) : (Instr.sliceAt 9 (.string ⟨#[97, 98, 99, 100]⟩) (some (.int .i64 ((1 : Nat) : Int))) (some (.int .i64 (((1 : Nat) : Int) + 1))) none).run Yba.prog w = .ok (.string (nk 1)) w := by kernel_rfl
theorem sub_nk2 (w : World) : (Instr.sliceAt 9 (.string ⟨#[97, 98, 99, 100]⟩) (some (.int .i64 ((2 : Nat) : Int))) (some (.int .i64 (((2 : Nat) : Int) + 1))) none).run Yba.prog w = .ok (.string (nk 2)) w := by kernel_rfl
theorem sub_nk3 (w : World) : (Instr.sliceAt 9 (.string ⟨#[97, 98, 99, 100]⟩) (some (.int .i64 ((3 : Nat) : Int))) (some (.int .i64 (((3 : Nat) : Int) + 1))) none).run Yba.prog w = .ok (.string (nk 3)) w := by kernel_rfl
theorem sub_nk {n : Nat} (h : n < 4) (w : World) : (Instr.sliceAt 9 (.string ⟨#[97, 98, 99, 100]⟩) (some (.int .i64 (n : Int))) (some (.int .i64 ((n : Int) + 1))) none).run Yba.prog w = .ok (.string (nk n)) w := by
  have h1 : n = 0 ∨ n = 1 ∨ n = 2 ∨ n = 3 := by omega
  rcases h1 with rfl | rfl | rfl | rfl
  · exact sub_nk0 w
  · exact sub_nk1 w
  · exact sub_nk2 w
  · exact sub_nk3 w
theorem sub_dk0 (w : World) : (Instr.sliceAt 9 (.string ⟨#[48, 49, 50, 51]⟩) (some (.int .i64 ((0 : Nat) : Int))) (some (.int .i64 (((0 : Nat) : Int) + 1))) none).run Yba.prog w = .ok (.string (dk 0)) w := by kernel_rfl
theorem sub_dk1 (w : World) : (Instr.sliceAt 9 (.string ⟨#[48, 49, 50, 51]⟩) (some (.int .i64 ((1 : Nat) : Int))) (some (.int .i64 (((1 : Nat) : Int) + 1))) none).run Yba.prog w = .ok (.string (dk 1)) w := by kernel_rfl
theorem sub_dk2 (w : World) : (Instr.sliceAt 9 (.string ⟨#[48, 49, 50, 51]⟩) (some (.int .i64 ((2 : Nat) : Int))) (some (.int .i64 (((2 : Nat) : Int) + 1))) none).run Yba.prog w = .ok (.string (dk 2)) w := by kernel_rfl
theorem sub_dk3 (w : World) : (Instr.sliceAt 9 (.string ⟨#[48, 49, 50, 51]⟩) (some (.int .i64 ((3 : Nat) : Int))) (some (.int .i64 (((3 : Nat) : Int) + 1))) none).run Yba.prog w = .ok (.string (dk 3)) w := by kernel_rfl
theorem sub_dk {n : Nat} (h : n < 4) (w : World) : (Instr.sliceAt 9 (.string ⟨#[48, 49, 50, 51]⟩) (some (.int .i64 (n : Int))) (some (.int .i64 ((n : Int) + 1))) none).run Yba.prog w = .ok (.string (dk n)) w := by
  have h1 : n = 0 ∨ n = 1 ∨ n = 2 ∨ n = 3 := by omega
  rcases h1 with rfl | rfl | rfl | rfl
  · exact sub_dk0 w
  · exact sub_dk1 w
  · exact sub_dk2 w
  · exact sub_dk3 w
theorem cat_tk (n : Nat) (w : World) : (Op.stringOp .add ⟨#[116]⟩ (dk n)).run Yba.prog w = .ok (.string (tk n)) w := by kernel_rfl
attribute [local go_sem] cat_tk
theorem tk_size (n : Nat) : (tk n).size ≤ maxLen := by show 2 ≤ maxLen; decide

theorem ptr_same {tp te : TypeId} {j : TypeInfo} (a : Addr) (hp : Yba.prog.underlying tp = some (.pointer te)) (hte : Yba.prog.info? te = some j) (w : World) :
    (binOp .neq tp (.pointer (some a)) (.pointer (some a))).run Yba.prog w = .ok (.bool false) w := by
  have h : ∀ d : Nat, (Op.equalIn (d + 1) tp (.pointer (some a)) (.pointer (some a))).run Yba.prog w = .ok true w := fun d => by
    simp [Op.equalIn, run_underlying hp, sizeOf, typeInfo, hte, run_sameAddr_same]
  simp only [binOp]
  simp [Op.equal, Op.maxDepth, h 9999]
theorem info62 : (Yba.prog.info? 62).map (fun i => (i.zero, i.size, i.bytes)) = some (some (.agg #[.string ⟨#[]⟩, .map none, .map none]), 3, 32) := by kernel_rfl
theorem same48 (b : Nat) (w : World) : (binOp .neq 48 (.pointer (some ⟨b, 0, none⟩)) (.pointer (some ⟨b, 0, none⟩))).run Yba.prog w = .ok (.bool false) w := by
  obtain ⟨i, hi, _⟩ := info_parts info62
  exact ptr_same _ Yba.underlying48 hi w

/-- The row of staged tenants. -/
def stv (st : List (Option Nat)) : Array Value := (st.map fun o => Value.pointer (o.map fun b => ⟨b, 0, none⟩)).toArray
theorem stv_get (st : List (Option Nat)) (i : Nat) : (stv st)[i]? = st[i]?.map fun o => Value.pointer (o.map fun b => ⟨b, 0, none⟩) := by simp [stv]
/-- The row of expected counts. -/
def exv (c : Nat → Nat) : Array Value := #[.int .i64 (c 0), .int .i64 (c 1), .int .i64 (c 2), .int .i64 (c 3)]
theorem exv_get (c : Nat → Nat) {n : Nat} (h : n < 4) : (exv c)[n]? = some (.int .i64 (c n)) := by
  have h1 : n = 0 ∨ n = 1 ∨ n = 2 ∨ n = 3 := by omega
  rcases h1 with rfl | rfl | rfl | rfl <;> rfl

theorem Mp.drewN {w : World} {b : Nat} {m : Ents} (h : Mp w b m) (k : Nat) : Mp (w.drewN k) b m := h.same rfl
theorem Blk.drewN {w : World} {b : Nat} {cs : Array Value} {t : TypeId} (h : Blk w b cs t) (k : Nat) : Blk (w.drewN k) b cs t := h

/-- What the end of the law reads. -/
structure FE (w0 w : World) (sv S L gb stg exp av a tt na ra : Nat) (m : Ents) (gs : List (List Nat)) (st : List (Option Nat)) : Prop where
  bel : Below w0.heap.size w0 w
  hS : Sto w S L gb
  hT : Tab w L a tt na ra
  hsv : Blk w sv #[.pointer (some ⟨S, 0, none⟩)] 28
  hm : Mp w tt m
  hG : Gnt w gb (cnt gs)
  hst : Blk w stg (stv st) 49
  hex : Blk w exp (exv (cnt gs)) 50
  hav : Blk w av #[.int .i64 (nks gs)] 3
theorem FE.drewN {w0 w : World} {sv S L gb stg exp av a tt na ra : Nat} {m : Ents} {gs : List (List Nat)} {st : List (Option Nat)} (h : FE w0 w sv S L gb stg exp av a tt na ra m gs st) (n : Nat) : FE w0 (w.drewN n) sv S L gb stg exp av a tt na ra m gs st :=
  ⟨h.bel.trans ⟨rfl, rfl, rfl, Nat.le_refl _, fun _ _ => rfl⟩, h.hS, h.hT, h.hsv, h.hm.drewN n, by obtain ⟨m', h1, h2⟩ := h.hG.ex; exact ⟨m', h1.drewN n, h2⟩, h.hst, h.hex, h.hav⟩

theorem FE.keep {w0 w w' : World} {sv S L gb stg exp av a tt na ra : Nat} {m : Ents} {gs : List (List Nat)} {st : List (Option Nat)} (h : FE w0 w sv S L gb stg exp av a tt na ra m gs st) (hf : Fr w w' (fun _ => False)) : FE w0 w' sv S L gb stg exp av a tt na ra m gs st :=
  ⟨h.bel.trans (hf.below h.bel.size (fun _ e => e.elim)), Blk.keep h.hS hf id, Blk.keep h.hT hf id, h.hsv.keep hf id, h.hm.keep hf id, h.hG.keep hf id, h.hst.keep hf id, h.hex.keep hf id, h.hav.keep hf id⟩

set_option maxRecDepth 100000 in
set_option maxHeartbeats 2000000 in
theorem phE2 (sv S L gb stg exp av a tt na ra : Nat) (m : Ents) (gs : List (List Nat)) (st : List (Option Nat)) (w0 w : World) {x0 x1 x2 x3 x4 x5 x6 x7 x8 x10 x13 x14 x15 x16 x17 x18 x19 x20 x21 x22 x23 x24 x25 x26 x27 x28 x30 x31 x32 x33 x34 x35 x36 x37 x38 x39 x40 x41 x42 x43 x44 x45 x46 x47 x48 x49 x50 x51 x52 x53 x54 x55 x56 x57 x58 x59 x60 x61 x62 x63 x64 x65 x66 x67 x68 x69 x70 x71 x72 x73 x74 x75 x76 x77 x78 x79 x80 x81 x82 x83 x84 x85 x86 x87 x88 x89 x90 x91 x92 x93 x94 x95 x96 x97 x98 x99 x100 x101 x102 x103 x104 x105 x106 x107 x108 x109 x110 x111 x112 x113 x114 x115 x116 x117 x118 x119 x120 x121 x122 x123 x124 x125 x126 x127 x128 x129 x130 x131 x132 x133 x134 x135 x136 x137 x138 x139 x140 x141 x142 x143 x144 x145 x146 x147 x148 x149 x150 x151 x152 x153 x154 x155 x156 x157 x158 x159 x160 x161 x162 x163 x164 x165 x166 x167 x168 x169 x170 x171 x172 x173 x174 x175 x176 x177 x178 x179 x180 x181 x182 x183 x184 x185 x186 x187 x188 x189 x190 x191 x192 x193 x194 x195 x196 x197 x198 x199 x200 x201 x202 x203 x204 x205 x206 x207 x208 x209 x210 x211 x212 x213 x214 x215 x216 x217 x218 x219 x220 x221 x222 x223 x224 x225 x226 x227 x228 x229 x230 x231 x232 x233 x234 x235 x236 x237 x238 x239 x240 x241 x242 x243 x244 x245 x246 x247 x248 x249 x250 x251 x252 x253 x254 x255 x256 x257 x258 x259 x260 x261 x262 x263 x264 x265 x266 x267 x268 x269 x270 x271 x272 x273 x274 x275 x276 x277 x278 x279 x280 x281 x282 x283 x284 x285 x286 x287 x288 x289 x290 x291 x292 x293 x294 x295 x296 x297 x298 x299 x300 x301 x302 x303 x304 x305 x306 x307 x308 x309 x310 x311 x312 x313 x314 x315 x316 x317 x318 x319 x320 x321 x322 x323 x324 x325 x326 x327 x328 x329 x330 x331 x332 x333 x334 x335 x336 x337 x338 x339 x340 x341 x342 x343 x344 x345 x346 x347 : Value} (hF : FE w0 w sv S L gb stg exp av a tt na ra m gs st)
    (hst4 : st.length = 4) (hlk : ∀ k b, st[k]? = some (some b) → look m (tk k) = some (.pointer (some ⟨b, 0, none⟩))) :
    Code.wp Yba.prog (dropSeq 22 (Yba.f3.body.getD .skip)) (bodyPost Yba.prog Yba.f3 (fun e w' => e = .returned (.bool true) ∧ Below w0.heap.size w0 w')) ⟨#[x0, x1, x2, x3, x4, x5, x6, x7, x8, .pointer (some ⟨sv, 0, none⟩), x10, .pointer (some ⟨stg, 0, none⟩), .pointer (some ⟨exp, 0, none⟩), x13, x14, x15, x16, x17, x18, x19, x20, x21, x22, x23, x24, x25, x26, x27, x28, .pointer (some ⟨av, 0, none⟩), x30, x31, x32, x33, x34, x35, x36, x37, x38, x39, x40, x41, x42, x43, x44, x45, x46, x47, x48, x49, x50, x51, x52, x53, x54, x55, x56, x57, x58, x59, x60, x61, x62, x63, x64, x65, x66, x67, x68, x69, x70, x71, x72, x73, x74, x75, x76, x77, x78, x79, x80, x81, x82, x83, x84, x85, x86, x87, x88, x89, x90, x91, x92, x93, x94, x95, x96, x97, x98, x99, x100, x101, x102, x103, x104, x105, x106, x107, x108, x109, x110, x111, x112, x113, x114, x115, x116, x117, x118, x119, x120, x121, x122, x123, x124, x125, x126, x127, x128, x129, x130, x131, x132, x133, x134, x135, x136, x137, x138, x139, x140, x141, x142, x143, x144, x145, x146, x147, x148, x149, x150, x151, x152, x153, x154, x155, x156, x157, x158, x159, x160, x161, x162, x163, x164, x165, x166, x167, x168, x169, x170, x171, x172, x173, x174, x175, x176, x177, x178, x179, x180, x181, x182, x183, x184, x185, x186, x187, x188, x189, x190, x191, x192, x193, x194, x195, x196, x197, x198, x199, x200, x201, x202, x203, x204, x205, x206, x207, x208, x209, x210, x211, x212, x213, x214, x215, x216, x217, x218, x219, x220, x221, x222, x223, x224, x225, x226, x227, x228, x229, x230, x231, x232, x233, x234, x235, x236, x237, x238, x239, x240, x241, x242, x243, x244, x245, x246, x247, x248, x249, x250, x251, x252, x253, x254, x255, x256, x257, x258, x259, x260, x261, x262, x263, x264, x265, x266, x267, x268, x269, x270, x271, x272, x273, x274, x275, x276, x277, x278, x279, x280, x281, x282, x283, x284, x285, x286, x287, x288, x289, x290, x291, x292, x293, x294, x295, x296, x297, x298, x299, x300, x301, x302, x303, x304, x305, x306, x307, x308, x309, x310, x311, x312, x313, x314, x315, x316, x317, x318, x319, x320, x321, x322, x323, x324, x325, x326, x327, x328, x329, x330, x331, x332, x333, x334, x335, x336, x337, x338, x339, x340, x341, x342, x343, x344, x345, x346, x347], []⟩ w := by
  have HL : Hid (∀ k b, st[k]? = some (some b) → look m (tk k) = some (.pointer (some ⟨b, 0, none⟩))) := hlk
  clear hlk
  conv => arg 2; whnf
  go_wp2_with fail
  go_loopw [33] (fun q wr => (∃ k : Nat, k ≤ 4 ∧ q = .int .i64 k) ∧ FE w0 wr sv S L gb stg exp av a tt na ra m gs st) (fun q _ => 4 - (intOf q).toNat)
  case atStart => exact ⟨⟨0, by omega, rfl⟩, hF⟩
  case round =>
    clear hF
    obtain ⟨⟨k, hk, rfl⟩, hF⟩ := hrel
    have c0 : wr.cell? ⟨sv, 0, none⟩ = some (.pointer (some ⟨S, 0, none⟩)) := hF.hsv.cell? 0
    have c9 : wr.cell? ⟨S, 9, none⟩ = some (.pointer (some ⟨L, 0, none⟩)) := Blk.cell? hF.hS 9
    have c1 : wr.cell? ⟨L, 1, none⟩ = some (.map (some tt)) := Blk.cell? hF.hT 1
    by_cases hk4 : k < 4
    · have hk4' : (k : Int) < 4 := by omega
      have hsd := sub_dk hk4
      have hct := cat_tk k
      have hgs := stv_get st k
      have hsk : st[k]? = some st[k] := List.getElem?_eq_getElem (by omega)
      rw [hsk] at hgs
      have cst0 := (Blk.cell? hF.hst k).trans hgs
      clear hgs
      cases hb : st[k] with
      | none =>
        rw [hb] at cst0
        have cst : wr.cell? ⟨stg, k, none⟩ = some (.pointer none) := cst0
        clear cst0
        go_wp2_with fail
        go_roundw
        case rel => exact ⟨⟨k + 1, by omega, by go_num⟩, hF⟩
        case measure => simp [intOf]; omega
      | some b =>
        rw [hb] at cst0
        have cst : wr.cell? ⟨stg, k, none⟩ = some (.pointer (some ⟨b, 0, none⟩)) := cst0
        clear cst0
        have hlook := HL.out k b (hsk.trans (by rw [hb]))
        have hrun : ∀ i, (Instr.lookup 65 (.map (some tt)) (.string (tk k)) false).run Yba.prog (wr.drewN i) = .ok (.pointer (some ⟨b, 0, none⟩)) (wr.drewN i) := by
          intro i
          rw [(hF.hm.drewN i).look Yba.underlying65 (zero48 _) (tk_size k), hlook]
          rfl
        have hrun' := hrun 0
        have hsm := same48 b
        go_wp2_with fail
        go_quiet (fail)
        go_wp2_with fail
        go_roundw
        case rel => exact ⟨⟨k + 1, by omega, by go_num⟩, hF.drewN nq⟩
        case measure => simp [intOf]; omega
    · have hk4' : ¬ ((k : Int) < 4) := by omega
      clear c0 c9 c1
      go_wp2_with fail
      go_loopw [34, 35] (fun z q wr => (∃ n : Nat, n ≤ 4 ∧ q = .int .i64 n ∧ z = .int .i64 (((List.range n).filter (fun i => decide (cnt gs i ≠ 0))).length : Nat)) ∧ FE w0 wr sv S L gb stg exp av a tt na ra m gs st) (fun _ q _ => 4 - (intOf q).toNat)
      case atStart => exact ⟨⟨0, by omega, rfl, rfl⟩, hF⟩
      case round =>
        clear hF hk4 hk4' hk
        obtain ⟨⟨n, hn, rfl, rfl⟩, hF⟩ := hrel
        generalize hnk : ((List.range n).filter (fun i => decide (cnt gs i ≠ 0))).length = q at *
        have hq4 : q ≤ n := by rw [← hnk]; exact Nat.le_trans (List.length_filter_le _ _) (by simp)
        have c0 : wr.cell? ⟨sv, 0, none⟩ = some (.pointer (some ⟨S, 0, none⟩)) := hF.hsv.cell? 0
        have c10 : wr.cell? ⟨S, 10, none⟩ = some (.map (some gb)) := Blk.cell? hF.hS 10
        have c0a : ∀ A : Obj, (wr.alloc A).cell? ⟨sv, 0, none⟩ = some (.pointer (some ⟨S, 0, none⟩)) := fun A => (Blk.alloc hF.hsv A).cell? 0
        have c10a : ∀ A : Obj, (wr.alloc A).cell? ⟨S, 10, none⟩ = some (.map (some gb)) := fun A => Blk.cell? (Blk.alloc hF.hS A) 10
        by_cases hn4 : n < 4
        · have hn4' : (n : Int) < 4 := by omega
          have hsd := sub_nk hn4
          obtain ⟨gm, hgm, hgk, hgo⟩ := hF.hG.ex
          have hq := hgk n hn4
          have cex : wr.cell? ⟨exp, n, none⟩ = some (.int .i64 (cnt gs n)) := (Blk.cell? hF.hex n).trans (exv_get _ hn4)
          by_cases hc0 : cnt gs n = 0
          · rw [if_pos hc0] at hq
            rw [hc0] at cex
            have hr1 : (Instr.lookup 45 (.map (some gb)) (.string (nk n)) true).run Yba.prog wr.drew = .ok (.tuple #[.agg #[.string ⟨#[]⟩, .int .i64 0], .bool false]) wr.drew := by
              rw [hgm.drew.look_ok Yba.underlying45 (zero77 _) (nk_size n), hq]; rfl
            have hr2 : (Instr.lookup 45 (.map (some gb)) (.string (nk n)) true).run Yba.prog (wr.alloc (.cells #[.string ⟨#[]⟩, .int .i64 0] 77)).drew = .ok (.tuple #[.agg #[.string ⟨#[]⟩, .int .i64 0], .bool false]) (wr.alloc (.cells #[.string ⟨#[]⟩, .int .i64 0] 77)).drew := by
              rw [(hgm.alloc _).drew.look_ok Yba.underlying45 (zero77 _) (nk_size n), hq]; rfl
            go_wp2_with fail
            go_region
            all_goals
              have hfr : Fr wr (wr.alloc (.cells #[.string ⟨#[]⟩, .int .i64 0] 77)).drew (fun _ => False) := ((Fr.refl wr _).alloc _).drew
              have cex' : (wr.alloc (.cells #[.string ⟨#[]⟩, .int .i64 0] 77)).cell? ⟨exp, n, none⟩ = some (.int .i64 0) := (Blk.cell? (hF.hex.alloc _) n).trans ((Blk.cell? hF.hex n).symm.trans cex)
              go_wp2_with fail
              refine ⟨⟨⟨n + 1, by omega, by go_num, ?_⟩, hF.keep hfr⟩, by simp [intOf]; omega⟩
              rw [List.range_succ, List.filter_append, List.length_append, hnk]
              simp [hc0]
          · rw [if_neg hc0] at hq
            generalize hcn : cnt gs n = c at *
            have hcle : (c : Int) ≠ 0 := by omega
            have hr1 : (Instr.lookup 45 (.map (some gb)) (.string (nk n)) true).run Yba.prog wr.drew = .ok (.tuple #[.agg #[.string ⟨#[]⟩, .int .i64 c], .bool true]) wr.drew := by
              rw [hgm.drew.look_ok Yba.underlying45 (zero77 _) (nk_size n), hq]; rfl
            have hr2 : (Instr.lookup 45 (.map (some gb)) (.string (nk n)) true).run Yba.prog (wr.alloc (.cells #[.string ⟨#[]⟩, .int .i64 0] 77)).drew = .ok (.tuple #[.agg #[.string ⟨#[]⟩, .int .i64 c], .bool true]) (wr.alloc (.cells #[.string ⟨#[]⟩, .int .i64 0] 77)).drew := by
              rw [(hgm.alloc _).drew.look_ok Yba.underlying45 (zero77 _) (nk_size n), hq]; rfl
            go_wp2_with fail
            go_region
            all_goals
              have hfr : Fr wr (wr.alloc (.cells #[.string ⟨#[]⟩, .int .i64 c] 77)).drew (fun _ => False) := ((Fr.refl wr _).alloc _).drew
              have cex' : (wr.alloc (.cells #[.string ⟨#[]⟩, .int .i64 c] 77)).cell? ⟨exp, n, none⟩ = some (.int .i64 c) := (Blk.cell? (hF.hex.alloc _) n).trans ((Blk.cell? hF.hex n).symm.trans cex)
              go_wp2_with fail
              have hnb := Blk.new wr #[.string ⟨#[]⟩, .int .i64 c] 77
              have e0 : (wr.alloc (.cells #[.string ⟨#[]⟩, .int .i64 c] 77)).drew.cell? ⟨wr.heap.size, 0, none⟩ = some (.string ⟨#[]⟩) := hnb.cell? 0
              have e1 : (wr.alloc (.cells #[.string ⟨#[]⟩, .int .i64 c] 77)).drew.cell? ⟨wr.heap.size, 1, none⟩ = some (.int .i64 c) := hnb.cell? 1
              have e2 : (wr.alloc (.cells #[.string ⟨#[]⟩, .int .i64 c] 77)).drew.cell? ⟨exp, n, none⟩ = some (.int .i64 c) := cex'
              clear cex'
              generalize (wr.alloc (.cells #[.string ⟨#[]⟩, .int .i64 c] 77)).drew = wz at hfr e0 e1 e2 ⊢
              go_quiet (fail)
              go_wp2_with fail
              refine ⟨⟨⟨n + 1, by omega, by go_num, ?_⟩, (hF.keep hfr).drewN nq⟩, by simp [intOf]; omega⟩
              rw [List.range_succ, List.filter_append, List.length_append, hnk]
              simp [hcn, hc0]
        · have hn4' : ¬ ((n : Int) < 4) := by omega
          have hn5 : n = 4 := by omega
          subst hn5
          obtain ⟨gm, hgm, hgl⟩ := hF.hG.len
          have hq : q = nks gs := hnk.symm
          have cav : wr.cell? ⟨av, 0, none⟩ = some (.int .i64 (nks gs)) := hF.hav.cell? 0
          rw [hq]
          clear hnk hq
          go_wp2_with (first
            | (at_len; refine wpList_mlen _ rfl _ 45 rfl hgm Yba.underlying45 rfl ?_; rw [hgl])
            | fail)
          go_ret
          exact ⟨rfl, hF.bel⟩
end Go.Proofs.Ybulkuvc
