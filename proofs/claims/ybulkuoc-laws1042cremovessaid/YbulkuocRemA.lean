/- LawS1042CRemoves, its first part: the order. -/
import Derived.Test.YbulkuocUnblock
import Derived.Deep.MidRow
import Derived.Deep.CutBlock
namespace Go.Proofs.Ybulkuoc
open Go.RowKit
def dropSeq : Nat → Code → Code
  | 0, c => c
  | k + 1, .seq _ b => dropSeq k b
  | _ + 1, c => c

/-- A row of ints. -/
def ints (l : List Nat) : Array Value := (l.map fun (n : Nat) => Value.int .i64 (n : Int)).toArray
theorem ints_size (l : List Nat) : (ints l).size = l.length := by simp [ints]
theorem ints_get (l : List Nat) (i : Nat) : (ints l)[i]? = l[i]?.map (fun (n : Nat) => Value.int .i64 (n : Int)) := by simp [ints]
theorem ints_at {l : List Nat} {i v : Nat} (h : l[i]? = some v) : (ints l)[i]? = some (.int .i64 (v : Int)) := by rw [ints_get, h]; rfl
theorem ints_set (l : List Nat) (i v : Nat) : (ints l).setIfInBounds i (.int .i64 (v : Int)) = ints (l.set i v) := by
  simp [ints]

/-- A permutation of 0 .. n-1. -/
structure PL (n : Nat) (l : List Nat) : Prop where
  len : l.length = n
  inj : ∀ {i j v : Nat}, l[i]? = some v → l[j]? = some v → i = j
  lt : ∀ v ∈ l, v < n
  onto : ∀ v, v < n → ∃ j : Nat, l[j]? = some v

theorem PL.range (n : Nat) : PL n (List.range n) := by
  refine ⟨by simp, ?_, fun v hv => List.mem_range.1 hv, fun v hv => ⟨v, List.getElem?_range hv⟩⟩
  intro i j v hi hj
  obtain ⟨hi1, hi2⟩ := List.getElem?_eq_some_iff.1 hi
  obtain ⟨hj1, hj2⟩ := List.getElem?_eq_some_iff.1 hj
  rw [List.getElem_range] at hi2 hj2
  omega

theorem PL.get {n : Nat} {l : List Nat} (h : PL n l) {i : Nat} (hi : i < n) : ∃ v, l[i]? = some v ∧ v < n := by
  have hl := h.len
  exact ⟨l[i], List.getElem?_eq_getElem (by omega), h.lt _ (List.getElem_mem _)⟩

theorem PL.swap {n : Nat} {l : List Nat} (h : PL n l) {i j a b : Nat} (hi : l[i]? = some a) (hj : l[j]? = some b) : PL n ((l.set i b).set j a) := by
  obtain ⟨hi1, _⟩ := List.getElem?_eq_some_iff.1 hi
  obtain ⟨hj1, _⟩ := List.getElem?_eq_some_iff.1 hj
  have key : ∀ k, ((l.set i b).set j a)[k]? = l[if k = j then i else if k = i then j else k]? := by
    intro k
    simp only [List.getElem?_set, List.length_set]
    by_cases e1 : k = j
    · subst e1; simp [hj1, hi]
    · by_cases e2 : k = i
      · subst e2; simp [e1, Ne.symm e1, hi1, hj]
      · simp [e1, e2, Ne.symm e1, Ne.symm e2]
  have perm : ∀ k k', (if k = j then i else if k = i then j else k) = (if k' = j then i else if k' = i then j else k') → k = k' := by
    intro k k' e
    split at e <;> split at e <;> (try split at e) <;> (try split at e) <;> omega
  refine ⟨by simp [h.len], ?_, ?_, ?_⟩
  · intro k k' v hk hk'
    rw [key] at hk hk'
    exact perm k k' (h.inj hk hk')
  · intro v hv
    obtain ⟨k, hk⟩ := List.mem_iff_getElem?.1 hv
    rw [key] at hk
    exact h.lt v (List.mem_of_getElem? hk)
  · intro v hv
    obtain ⟨q, hq⟩ := h.onto v hv
    refine ⟨if q = j then i else if q = i then j else q, ?_⟩
    rw [key]
    rw [← hq]
    congr 1
    split <;> split <;> (try split) <;> (try split) <;> omega


set_option maxRecDepth 100000 in
set_option maxHeartbeats 2000000 in
theorem phA (a0 : Option Addr) (len cap : Nat) (s m i : Int) (up : Bool) (w0 : World) (hlen : len ≤ 1024) (hc : ∀ j, j < len → ∃ b off, ∃ z : Nat, a0 = some ⟨b, off, none⟩ ∧ b < w0.heap.size ∧ w0.cell? ⟨b, off + j, none⟩ = some (.int .u8 z) ∧ z < 256)
    (hB : ∀ (P : Nat) (pl : List Nat) (w : World) {x5 x6 x7 x8 x9 x13 x14 x15 x16 x17 x18 x19 x20 x21 x22 x23 x24 x25 x26 x27 x28 x29 x30 x31 x32 x33 x34 x35 x36 x37 x38 x39 x40 x41 x42 x43 x44 x45 x46 x47 x48 x49 x50 x51 x52 x53 x54 x55 x56 x57 x58 x59 x60 x61 x62 x63 x64 x65 x66 x67 x68 x69 x70 x71 x72 x73 x74 x75 x76 x77 x78 x79 x80 x81 x82 x83 x84 x85 x86 x87 x88 x89 x90 x91 x92 x93 x94 x95 x96 x97 x98 x99 x100 x101 x102 x103 x104 x105 x106 x107 x108 x109 x110 x111 x112 x113 x114 x115 x116 x117 x118 x119 x120 x121 x122 x123 x124 x125 x126 x127 x128 x129 x130 x131 x132 x133 x134 x135 x136 x137 x138 x139 x140 x141 x142 x143 x144 x145 x146 x147 x148 x149 x150 x151 x152 x153 x154 x155 x156 x157 x158 x159 x160 x161 x162 x163 x164 x165 x166 x167 x168 x169 x170 x171 x172 x173 x174 x175 x176 x177 x178 x179 x180 x181 x182 x183 x184 x185 x186 x187 x188 x189 x190 x191 x192 x193 x194 x195 x196 x197 x198 x199 x200 x201 x202 x203 x204 x205 x206 x207 x208 x209 x210 x211 x212 x213 x214 x215 x216 x217 x218 x219 x220 x221 x222 x223 x224 x225 x226 x227 x228 x229 x230 x231 x232 x233 x234 x235 x236 x237 x238 x239 x240 x241 x242 x243 x244 x245 x246 x247 x248 x249 x250 x251 x252 x253 x254 x255 x256 x257 x258 x259 x260 x261 x262 x263 x264 x265 x266 x267 x268 x269 x270 x271 x272 x273 x274 x275 x276 x277 x278 x279 x280 x281 x282 x283 x284 x285 x286 x287 x288 x289 x290 x291 x292 x293 x294 x295 x296 x297 x298 x299 x300 x301 x302 x303 x304 x305 x306 x307 x308 : Value}, PL (len + 1) pl → w0.heap.size ≤ P → Below w0.heap.size w0 w → Blk w P (ints pl) 3 →
      Code.wp Yba.prog (dropSeq 6 (Yba.f7.body.getD .skip)) (bodyPost Yba.prog Yba.f7 (fun e w' => e = .returned (.bool true) ∧ Below w0.heap.size w0 w')) ⟨#[.slice a0 len cap, .int .u8 s, .int .u8 m, .int .u8 i, .bool up, x5, x6, x7, x8, x9, .bool false, .int .i64 (len + 1), .slice (some ⟨P, 0, none⟩) (len + 1) (len + 1), x13, x14, x15, x16, x17, x18, x19, x20, x21, x22, x23, x24, x25, x26, x27, x28, x29, x30, x31, x32, x33, x34, x35, x36, x37, x38, x39, x40, x41, x42, x43, x44, x45, x46, x47, x48, x49, x50, x51, x52, x53, x54, x55, x56, x57, x58, x59, x60, x61, x62, x63, x64, x65, x66, x67, x68, x69, x70, x71, x72, x73, x74, x75, x76, x77, x78, x79, x80, x81, x82, x83, x84, x85, x86, x87, x88, x89, x90, x91, x92, x93, x94, x95, x96, x97, x98, x99, x100, x101, x102, x103, x104, x105, x106, x107, x108, x109, x110, x111, x112, x113, x114, x115, x116, x117, x118, x119, x120, x121, x122, x123, x124, x125, x126, x127, x128, x129, x130, x131, x132, x133, x134, x135, x136, x137, x138, x139, x140, x141, x142, x143, x144, x145, x146, x147, x148, x149, x150, x151, x152, x153, x154, x155, x156, x157, x158, x159, x160, x161, x162, x163, x164, x165, x166, x167, x168, x169, x170, x171, x172, x173, x174, x175, x176, x177, x178, x179, x180, x181, x182, x183, x184, x185, x186, x187, x188, x189, x190, x191, x192, x193, x194, x195, x196, x197, x198, x199, x200, x201, x202, x203, x204, x205, x206, x207, x208, x209, x210, x211, x212, x213, x214, x215, x216, x217, x218, x219, x220, x221, x222, x223, x224, x225, x226, x227, x228, x229, x230, x231, x232, x233, x234, x235, x236, x237, x238, x239, x240, x241, x242, x243, x244, x245, x246, x247, x248, x249, x250, x251, x252, x253, x254, x255, x256, x257, x258, x259, x260, x261, x262, x263, x264, x265, x266, x267, x268, x269, x270, x271, x272, x273, x274, x275, x276, x277, x278, x279, x280, x281, x282, x283, x284, x285, x286, x287, x288, x289, x290, x291, x292, x293, x294, x295, x296, x297, x298, x299, x300, x301, x302, x303, x304, x305, x306, x307, x308], []⟩ w) :
    Calls Yba.prog 7 #[.slice a0 len cap, .int .u8 s, .int .u8 m, .int .u8 i, .bool up] w0 fun e w' => e = .returned (.bool true) ∧ Below w0.heap.size w0 w' := by
  have HC : Hid (∀ j, j < len → ∃ b off, ∃ z : Nat, a0 = some ⟨b, off, none⟩ ∧ b < w0.heap.size ∧ w0.cell? ⟨b, off + j, none⟩ = some (.int .u8 z) ∧ z < 256) := hc
  have HB := show Hid _ from hB
  clear hc hB
  have hmk : ∀ w, (Instr.makeSlice 26 (.int .i64 ((len : Int) + 1)) (.int .i64 ((len : Int) + 1))).run Yba.prog w = .ok (.slice (some ⟨w.heap.size, 0, none⟩) (len + 1) (len + 1)) (w.alloc (.cells (madeCells #[.int .i64 0] (len + 1)) 3)) :=
    fun w => run_make_row' 26 3 (.int .i64 0) 8 Yba.underlying26 info3r rfl .i64 .i64 (len + 1) (by omega) (by omega) w
  go_enter Yba.func7, Yba.ntmps7
  go_wp2_with fail
  go_loopw [45] (fun q wr => ∃ (k : Nat) (cs : Array Value), k ≤ len + 1 ∧ q = .int .i64 k ∧ Blk wr w0.heap.size cs 3 ∧ cs.size = len + 1 ∧ (∀ j, j < k → cs[j]? = some (.int .i64 (j : Int))) ∧ Below w0.heap.size w0 wr) (fun q _ => len + 1 - (intOf q).toNat)
  case atStart => exact ⟨0, _, Nat.zero_le _, rfl, Blk.new _ _ _, by simp [size_madeCells], fun j hj => absurd hj (Nat.not_lt_zero _), (Below.refl _ _).alloc (Nat.le_refl _) _⟩
  case round =>
    obtain ⟨k, cs, hk, rfl, hb, hsz, hcs, hbl⟩ := hrel
    by_cases hlt : k < len + 1
    · have c0 : wr.cell? ⟨w0.heap.size, k, none⟩ = some cs[k] := hb.cell (by simp)
      have f0 := hb.free k
      have hi : (k : Int) < (len : Int) + 1 := by omega
      have HK : Hid (∀ j, j < k → cs[j]? = some (.int .i64 (j : Int))) := hcs
      clear hcs
      go_wp2_with fail
      go_roundw
      case rel =>
        go_light
        refine ⟨k + 1, cs.setIfInBounds k (.int .i64 k), by omega, by go_num, hb.set k _, by simp [hsz], ?_, hbl.setCell (Nat.le_refl _) _⟩
        intro j hj
        by_cases e : j = k
        · subst e; rw [Array.getElem?_setIfInBounds]; simp [hsz]; omega
        · rw [Array.getElem?_setIfInBounds_ne (Ne.symm e)]; exact HK.out j (by omega)
      case measure => simp [intOf]; omega
    · have hcs2 : cs = ints (List.range (len + 1)) := by
        apply Array.ext_getElem?
        intro j
        rw [ints_get]
        by_cases e : j < len + 1
        · rw [hcs j (by omega), List.getElem?_range e]; rfl
        · rw [Array.getElem?_eq_none (by omega), List.getElem?_eq_none (by simp; omega)]; rfl
      subst hcs2
      clear hcs
      go_upto_block 2 with fail
      go_cut [14, 15, 16] from 55 to 82 (fun _ _ _ wc => ∃ pl, PL (len + 1) pl ∧ Below w0.heap.size w0 wc ∧ Blk wc w0.heap.size (ints pl) 3)
      case rest =>
        obtain ⟨pl, hpl, hbl2, hb2⟩ := hcut
        rename_i hk
        apply hk
        exact HB.out _ pl wc hpl (Nat.le_refl _) hbl2 hb2
      case first =>
      go_wp2_with fail
      go_loopw [14] (fun q wr => ∃ (t : Nat) (pl : List Nat), t ≤ len ∧ q = .int .i64 t ∧ PL (len + 1) pl ∧ Blk wr w0.heap.size (ints pl) 3 ∧ Below w0.heap.size w0 wr) (fun q _ => (intOf q).toNat)
      case atStart => exact ⟨len, _, Nat.le_refl _, rfl, PL.range _, hb, hbl⟩
      case round =>
        clear hb hbl
        obtain ⟨t, pl, ht, rfl, hpl, hb, hbl⟩ := hrel
        match t, ht with
        | 0, ht =>
          go_wp2_with fail
          go_meet
          exact ⟨pl, hpl, hbl, hb⟩
        | t + 1, ht =>
          obtain ⟨b, off, z, rfl, hbw, hcz, hz⟩ := HC.out t (by omega)
          have hcz' : wr.cell? ⟨b, off + t, none⟩ = some (.int .u8 z) := (hbl.cell (by exact hbw)).trans hcz
          clear hcz
          obtain ⟨jn, hjn, hjl⟩ : ∃ jn : Nat, (z : Int) % ((t : Int) + 1 + 1) = (jn : Int) ∧ jn ≤ t + 1 := ⟨z % (t + 1 + 1), by rw [Int.natCast_emod]; rfl, by have := Nat.mod_lt z (show 0 < t + 1 + 1 by omega); omega⟩
          obtain ⟨va, hva, _⟩ := hpl.get (i := t + 1) (by omega)
          obtain ⟨vb, hvb, _⟩ := hpl.get (i := jn) (by omega)
          have c1 : wr.cell? ⟨w0.heap.size, t + 1, none⟩ = some (.int .i64 va) := hb.cell (ints_at hva)
          have c2 : wr.cell? ⟨w0.heap.size, jn, none⟩ = some (.int .i64 vb) := hb.cell (ints_at hvb)
          have f1 := hb.free (t + 1)
          have f2 := hb.free jn
          have q1 : (t : Int) < (len : Int) := by omega
          have q2 : (jn : Int) < (len : Int) + 1 := by omega
          obtain ⟨v', hv'⟩ := cell?_setCell_some (w := wr) (p := ⟨w0.heap.size, t + 1, none⟩) (x := .int .i64 vb) (q := ⟨w0.heap.size, jn, none⟩) (v := .int .i64 vb) c2
          go_wp2_with fail
          go_roundw
          case rel =>
            go_light
            refine ⟨t, (pl.set (t + 1) vb).set jn va, by omega, by go_num, hpl.swap hva hvb, ?_, (hbl.setCell (Nat.le_refl _) _).setCell (Nat.le_refl _) _⟩
            have h5 := (hb.set (t + 1) (.int .i64 vb)).set jn (.int .i64 va)
            rw [ints_set, ints_set] at h5
            exact h5
          case measure => simp [intOf]

end Go.Proofs.Ybulkuoc
