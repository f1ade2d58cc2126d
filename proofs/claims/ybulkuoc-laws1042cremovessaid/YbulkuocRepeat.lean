/- slices.Repeat at a slice of one int; 'copy' of ints. -/
import Derived.Test.YbulkuocBlk
import Derived.Laws.CopyOwn
import Derived.Laws.MathBits
import Derived.Deep.Light
namespace Go.Proofs.Ybulkuoc
open Go.RowKit
set_option maxRecDepth 10000 in
set_option maxHeartbeats 400000 in
theorem mul_one (n : Nat) (w : World) (hn : n ≤ 2000) :
    Calls Yba.prog 58 #[.int .u64 1, .int .u64 n] w fun e w' => e = .returned (.tuple #[.int .u64 0, .int .u64 n]) ∧ w = w' := by
  have h1 : bits .and .u64 1 4294967295 = 1 := by rw [and_low32 1 (by omega) (by omega)]; rfl
  have h2 : bits .and .u64 (n : Int) 4294967295 = (n : Int) := by rw [and_low32 n (by omega) (by omega)]; omega
  have h3 : (n : Int) / 4294967296 = 0 := by omega
  have h4 : IntKind.u64.wrap (n : Int) = (n : Int) := by rw [IntKind.wrap_u64]; omega
  have h5 : bits .and .u64 0 4294967295 = 0 := by rw [and_low32 0 (by omega) (by omega)]; rfl
  have h6 : IntKind.u64.wrap 0 = 0 := rfl
  go_enter Yba.func58, Yba.ntmps58
  go_wp2
  go_ret2
  exact ⟨rfl, rfl⟩

theorem info3s : (Yba.prog.info? 3).map (·.size) = some 1 := by kernel_rfl
theorem info3r : (Yba.prog.info? 3).map (fun i => (i.zero, i.size, i.bytes)) = some (some (.int .i64 0), 1, 8) := by kernel_rfl


/-- w' is w but for block g. -/
structure Only (w w' : World) (g : Nat) : Prop where
  os : w'.os = w.os
  tape : w'.tape = w.tape
  output : w'.output = w.output
  size : w'.heap.size = w.heap.size
  block : ∀ k, k ≠ g → w'.heap[k]? = w.heap[k]?

theorem Only.blk {w w' : World} {g b : Nat} {cs : Array Value} {t : TypeId} (h : Only w w' g) (hb : Blk w b cs t) (hne : b ≠ g) : Blk w' b cs t := (h.block b hne).trans hb
theorem Only.below {w w' : World} {g B : Nat} (h : Only w w' g) (hB : B ≤ g) : Below B w w' := ⟨h.os, h.tape, h.output, by rw [h.size]; exact Nat.le_refl _, fun k hk => h.block k (by omega)⟩

/-- 'copy(dst, src)' of ints: dst and src lie in blocks that are known whole. -/
theorem copy_run {w : World} {g o dLen dCap sb so sLen sCap k : Nat} {cur src : Array Value} (cs : List Value) (hg : Blk w g cur 3) (hs : Blk w sb src 3) (hk : k = Nat.min sLen dLen) (hc : cs.length = k)
    (hcs : ∀ j, j < k → cs[j]? = src[so + j]?) (hfit : o + k ≤ cur.size) (h1 : ∀ v ∈ cs, v.oneCell' = true) (ty : TypeId) :
    ∃ w', (Builtin.copy_ #[26, 26] ty #[.slice (some ⟨g, o, none⟩) dLen dCap, .slice (some ⟨sb, so, none⟩) sLen sCap]).run Yba.prog w = .ok (.int .i64 k) w' ∧
      Blk w' g (cur.toList.take o ++ cs ++ cur.toList.drop (o + k)).toArray 3 ∧ Only w w' g := by
  have hsrc : ∀ j v, cs[j]? = some v → w.cell? ((⟨sb, so, none⟩ : Addr).add j) = some v := by
    intro j v hv
    have hj : j < k := by rw [← hc]; exact (List.getElem?_eq_some_iff.1 hv).1
    rw [show ((⟨sb, so, none⟩ : Addr).add j) = ⟨sb, so + j, none⟩ from by unfold Addr.add; split <;> simp_all, hs.cell?, ← hcs j hj]
    exact hv
  have h := run_copy_row (P := Yba.prog) w 26 26 ty 3 g o dLen dCap ⟨sb, so, none⟩ sLen sCap cur 3 cs Yba.underlying26 info3s hg (by rw [hc, hk]) hsrc (by omega) h1
  rw [hc] at h
  refine ⟨w.setRow g (cur.toList.take o ++ cs ++ cur.toList.drop (o + k)).toArray, h, ?_, ⟨rfl, rfl, rfl, by simp [World.setRow], fun b hb => setRow_other w g b _ hb⟩⟩
  exact setRow_heap w g cur _ 3 _ hg

theorem min_facts {k n : Nat} (h1 : 1 ≤ k) (h2 : k < n) : 1 ≤ Nat.min k (n - k) ∧ k + Nat.min k (n - k) ≤ n := by
  have e : Nat.min k (n - k) = min k (n - k) := rfl
  rw [e]
  omega

set_option maxRecDepth 10000 in
set_option maxHeartbeats 400000 in
theorem repeat_calls (xb n : Nat) (w : World) (h1 : 1 ≤ n) (hn : n ≤ 2000) (hx : Blk w xb #[.int .i64 (-1)] 3) :
    Calls Yba.prog 33 #[.slice (some ⟨xb, 0, none⟩) 1 1, .int .i64 n] w fun e w' => ∃ a l c, e = .returned (.slice a l c) ∧ Below w.heap.size w w' := by
  have hmk := run_make_row' (P := Yba.prog) 26 3 (.int .i64 0) 8 Yba.underlying26 info3r rfl .i64 .i64 n (by omega) (by omega)
  have h3 : IntKind.u64.wrap (n : Int) = (n : Int) := by rw [IntKind.wrap_u64]; omega
  have h4 : IntKind.i64.wrap (n : Int) = (n : Int) := by rw [IntKind.wrap_i64]; omega
  have hlt := hx.lt
  obtain ⟨w2, hcp, hb2, ho2⟩ := copy_run (w := w.alloc (.cells (madeCells #[.int .i64 0] n) 3)) (g := w.heap.size) (o := 0) (dLen := n) (dCap := n) (sb := xb) (so := 0) (sLen := 1) (sCap := 1) (k := 1) [.int .i64 (-1)]
    (Blk.new _ _ _) (hx.alloc _) (by have e : Nat.min 1 n = min 1 n := rfl; omega) rfl (fun j hj => by match j, hj with | 0, _ => rfl) (by simp [size_madeCells]; omega) (by simp [Value.oneCell']) 3
  have hbl2 : Below w.heap.size w w2 := ((Below.refl _ _).alloc (Nat.le_refl _) _).trans (ho2.below (Nat.le_refl _))
  have hb2' : ∃ cs, Blk w2 w.heap.size cs 3 ∧ cs.size = n ∧ ∀ v ∈ cs.toList, v.oneCell' = true := ⟨_, hb2, by simp [size_madeCells]; omega, by simp [madeCells_one, Value.oneCell']⟩
  clear hb2
  go_enter Yba.func33, Yba.ntmps33
  go_wp2_with (first
    | (go_at_call 58; refine (mul_one n w hn).mono ?_; rintro e w' ⟨rfl, rfl⟩)
    | fail)
  go_loopw [8] (fun i wr => ∃ k cs, 1 ≤ k ∧ k ≤ n ∧ i = .int .i64 (k : Nat) ∧ Blk wr w.heap.size cs 3 ∧ cs.size = n ∧ (∀ v ∈ cs.toList, v.oneCell' = true) ∧ Below w.heap.size w wr) (fun i _ => n - (intOf i).toNat)
  case atStart => obtain ⟨cs, h5, h6, h7⟩ := hb2'; exact ⟨1, cs, Nat.le_refl _, h1, rfl, h5, h6, h7, hbl2⟩
  case round =>
    clear hb2' hcp ho2 hbl2
    obtain ⟨k, cs, hk1, hkn, rfl, hb, hsz, hone, hbl⟩ := hrel
    by_cases hlt2 : k < n
    · have hmin := min_facts hk1 hlt2
      obtain ⟨m, hm1, hm2, hm⟩ : ∃ m, 1 ≤ m ∧ k + m ≤ n ∧ m = Nat.min k (n - k) := ⟨Nat.min k (n - k), hmin.1, hmin.2, rfl⟩
      clear hmin
      obtain ⟨w3, hcp, hb3, ho3⟩ := copy_run (w := wr.drew) (g := w.heap.size) (o := k) (dLen := n - k) (dCap := n - k) (sb := w.heap.size) (so := 0) (sLen := k) (sCap := n) (k := m) (cs.toList.take m)
        hb.drew hb.drew hm (by simp [hsz]; omega) (fun j hj => by simp [hj]) (by omega) (fun v hv => hone v (List.mem_of_mem_take hv)) 3
      clear hm
      have HB : Hid (Blk w3 w.heap.size (cs.toList.take k ++ cs.toList.take m ++ cs.toList.drop (k + m)).toArray 3) := hb3
      clear hb3
      go_wp2_with fail
      go_region
      go_wp2_with fail
      go_roundw
      case rel =>
        go_light
        refine ⟨k + m, _, by omega, hm2, by go_num, HB.out, by simp [hsz]; omega, ?_, hbl.drew.trans (ho3.below (Nat.le_refl _))⟩
        intro v hv
        simp only [List.mem_append] at hv
        rcases hv with (hv | hv) | hv
        · exact hone v (List.mem_of_mem_take hv)
        · exact hone v (List.mem_of_mem_take hv)
        · exact hone v (List.mem_of_mem_drop hv)
      case measure => simp [intOf]; omega
    · go_wp2_with fail
      go_ret
      exact ⟨_, _, _, rfl, hbl⟩
end Go.Proofs.Ybulkuoc
