/- graph.newOrder: its contract. -/
import Derived.Test.YbulkuocBlk
import Derived.BigRegion
import Derived.Deep.CutRange
import Derived.Deep.Light
namespace Go.Proofs.Ybulkuoc
open Go.RowKit
theorem info3' : (Yba.prog.info? 3).map (fun i => (i.zero, i.size, i.bytes)) = some (some (.int .i64 0), 1, 8) := by kernel_rfl
theorem info22 : (Yba.prog.info? 22).map (fun i => (i.zero, i.size, i.bytes)) = some (some (.int .u64 0), 1, 8) := by kernel_rfl
theorem build122 (a b : Int) (s1 s2 s3 : Option Addr) (l1 c1 l2 c2 l3 c3 : Nat) (t : Int) (w : World) :
    (Instr.build 122 #[(0, .int .i64 a), (1, .int .i64 b), (2, .slice s1 l1 c1), (3, .slice s2 l2 c2), (4, .slice s3 l3 c3), (5, .int .u64 t)]).run Yba.prog w =
      .ok (.agg #[.int .i64 a, .int .i64 b, .slice s1 l1 c1, .slice s2 l2 c2, .slice s3 l3 c3, .int .u64 t]) w :=
  run_build w 122 _ _ (by kernel_rfl)

set_option maxRecDepth 10000 in
set_option maxHeartbeats 400000 in
theorem newOrder_calls (n : Nat) (w : World) (hn : n ≤ 2000) :
    Calls Yba.prog 32 #[.int .i64 n, .int .u64 4611686018427387904] w fun e w' => ∃ ob lb pb nb cs, e = .returned (.pointer (some ⟨ob, 0, none⟩)) ∧ Below w.heap.size w w' ∧ w.heap.size ≤ ob ∧ w.heap.size ≤ nb ∧
      Blk w' ob #[.int .i64 n, .int .i64 (n + 1), .slice (some ⟨lb, 0, none⟩) (n + 2) (n + 2), .slice (some ⟨pb, 0, none⟩) (n + 2) (n + 2), .slice (some ⟨nb, 0, none⟩) (n + 2) (n + 2), .int .u64 4611686018427387904] 122 ∧
      Blk w' nb cs 3 ∧ ∀ v, v < n → cs[v]? = some (.int .i64 (-1)) := by
  have hmk : ∀ w, (Instr.makeSlice 26 (.int .i64 ((n : Int) + 2)) (.int .i64 ((n : Int) + 2))).run Yba.prog w = .ok (.slice (some ⟨w.heap.size, 0, none⟩) (n + 2) (n + 2)) (w.alloc (.cells (madeCells #[.int .i64 0] (n + 2)) 3)) :=
    fun w => run_make_row' 26 3 (.int .i64 0) 8 Yba.underlying26 info3' rfl .i64 .i64 (n + 2) (by omega) (by omega) w
  have hmu : ∀ w, (Instr.makeSlice 44 (.int .i64 ((n : Int) + 2)) (.int .i64 ((n : Int) + 2))).run Yba.prog w = .ok (.slice (some ⟨w.heap.size, 0, none⟩) (n + 2) (n + 2)) (w.alloc (.cells (madeCells #[.int .u64 0] (n + 2)) 22)) :=
    fun w => run_make_row' 44 22 (.int .u64 0) 8 Yba.underlying44 info22 rfl .i64 .i64 (n + 2) (by omega) (by omega) w
  have hbd := build122
  go_enter Yba.func32, Yba.ntmps32
  go_wp2_with fail
  go_cut [5] from 7 to 21 (fun p wc => ∃ ob lb pb nb, p = .pointer (some ⟨ob, 0, none⟩) ∧ Below w.heap.size w wc ∧ w.heap.size ≤ ob ∧ w.heap.size ≤ lb ∧ w.heap.size ≤ pb ∧ w.heap.size ≤ nb ∧ pb ≠ nb ∧
      Blk wc ob #[.int .i64 n, .int .i64 (n + 1), .slice (some ⟨lb, 0, none⟩) (n + 2) (n + 2), .slice (some ⟨pb, 0, none⟩) (n + 2) (n + 2), .slice (some ⟨nb, 0, none⟩) (n + 2) (n + 2), .int .u64 4611686018427387904] 122 ∧
      Blk wc lb (Array.replicate (n + 2) (.int .u64 0)) 22 ∧ Blk wc pb (Array.replicate (n + 2) (.int .i64 0)) 3 ∧ Blk wc nb (Array.replicate (n + 2) (.int .i64 0)) 3)
  case first =>
    go_region
    all_goals go_wp2_with fail
    all_goals go_meet
    all_goals go_light
    all_goals
      refine ⟨_, _, _, _, rfl, ?_, ?_, ?_, ?_, ?_, ?_, blk_last (by simp), ?_, ?_, ?_⟩
      · exact (((((Below.refl _ _).alloc (Nat.le_refl _) _).alloc (by simp) _).alloc (by simp; omega) _).alloc (by simp; omega) _).drew
      all_goals first | omega | (refine Blk.drew ?_; simp only [madeCells_one]; repeat (first | (refine blk_here ?_; simp; done) | refine Blk.alloc ?_ _))
  case rest =>
    obtain ⟨ob, lb, pb, nb, rfl, hbl, h1, h2, h3, h4, h5, ho, hl, hp, hx⟩ := hcut
    have c0 := ho.cell (i := 0) rfl
    have c1 := ho.cell (i := 1) rfl
    have c2 := ho.cell (i := 2) rfl
    have c3 := ho.cell (i := 3) rfl
    have c4 := ho.cell (i := 4) rfl
    go_wp2_with fail
    go_loopw [27] (fun i wr => ∃ (k : Nat) (ps xs : Array Value), k ≤ n + 2 ∧ i = .int .i64 k ∧ Below w.heap.size w wr ∧
      Blk wr ob #[.int .i64 n, .int .i64 (n + 1), .slice (some ⟨lb, 0, none⟩) (n + 2) (n + 2), .slice (some ⟨pb, 0, none⟩) (n + 2) (n + 2), .slice (some ⟨nb, 0, none⟩) (n + 2) (n + 2), .int .u64 4611686018427387904] 122 ∧
      Blk wr lb (Array.replicate (n + 2) (.int .u64 0)) 22 ∧ Blk wr pb ps 3 ∧ ps.size = n + 2 ∧ Blk wr nb xs 3 ∧ xs.size = n + 2 ∧ ∀ v, v < k → xs[v]? = some (.int .i64 (-1))) (fun i _ => n + 2 - (intOf i).toNat)
    case atStart => exact ⟨0, _, _, Nat.zero_le _, rfl, hbl, ho, hl, hp, by simp, hx, by simp, fun v hv => absurd hv (Nat.not_lt_zero _)⟩
    case round =>
      clear c0 c1 c2 c3 c4 ho hl hp hx hbl
      obtain ⟨k, ps, xs, hk, rfl, hbl, ho, hl, hp, hps, hx, hxs, hv⟩ := hrel
      have c0 := ho.cell (i := 0) rfl
      have c1 := ho.cell (i := 1) rfl
      have c2 := ho.cell (i := 2) rfl
      have c3 := ho.cell (i := 3) rfl
      have c4 := ho.cell (i := 4) rfl
      by_cases hlt : k < n + 2
      · have d0 : wr.cell? ⟨pb, k, none⟩ = some ps[k] := hp.cell (by simp)
        have d1 : wr.cell? ⟨nb, k, none⟩ = some xs[k] := hx.cell (by simp)
        have f0 := hp.free k
        have f1 := hx.free k
        have nob : ob ≠ pb := ho.ne hp (by decide)
        have nob2 : ob ≠ nb := ho.ne hx (by decide)
        have hi : (k : Int) < (n : Int) + 2 := by omega
        go_wp2_with fail
        go_region
        go_wp2_with fail
        go_roundw
        case rel =>
          go_light
          refine ⟨k + 1, ps.setIfInBounds k (.int .i64 (-1)), xs.setIfInBounds k (.int .i64 (-1)), by omega, by go_num, ((hbl.setCell h3 _).setCell h4 _).drew, ((ho.other nob _).other nob2 _).drew, ((hl.other (hl.ne hp (by decide)) _).other (hl.ne hx (by decide)) _).drew, ((hp.set k _).other h5 _).drew, by simp [hps], ((hx.other (Ne.symm h5) _).set k _).drew, by simp [hxs], ?_⟩
          intro v hvk
          by_cases e : v = k
          · subst e; rw [Array.getElem?_setIfInBounds]; simp [hxs]; omega
          · rw [Array.getElem?_setIfInBounds_ne (Ne.symm e)]; exact hv v (by omega)
        case measure => simp [intOf]; omega
      · have hk2 : k = n + 2 := by omega
        subst hk2
        have d0 : wr.cell? ⟨lb, n + 1, none⟩ = some (.int .u64 0) := hl.cell (by simp)
        have f0 := hl.free (n + 1)
        have d1 : wr.cell? ⟨nb, n, none⟩ = some xs[n] := hx.cell (by simp)
        have d2 : wr.cell? ⟨pb, n + 1, none⟩ = some ps[n + 1] := hp.cell (by simp)
        have f1 := hx.free n
        have f2 := hp.free (n + 1)
        have e1 : ob ≠ pb := ho.ne hp (by decide)
        have e2 : ob ≠ nb := ho.ne hx (by decide)
        have e3 : ob ≠ lb := ho.ne hl (by decide)
        have e4 : lb ≠ pb := hl.ne hp (by decide)
        have e5 : lb ≠ nb := hl.ne hx (by decide)
        go_wp2_with fail
        go_region
        go_wp2_with fail
        go_region
        go_wp2_with fail
        go_ret
        refine ⟨ob, lb, pb, nb, xs.setIfInBounds n (.int .i64 (n + 1)), rfl, (((hbl.setCell h2 _).setCell h4 _).setCell h3 _).drew.drew, h1, h4, (((ho.other e3 _).other e2 _).other e1 _).drew.drew, (((hx.other (Ne.symm e5) _).set n _).other (Ne.symm h5) _).drew.drew, ?_⟩
        intro v hvn
        rw [Array.getElem?_setIfInBounds_ne (by omega)]
        exact hv v (by omega)
end Go.Proofs.Ybulkuoc
