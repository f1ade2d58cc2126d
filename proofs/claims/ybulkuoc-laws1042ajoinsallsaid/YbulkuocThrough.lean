/- newThrough, zzs1042abuild. -/
import Derived.Test.YbulkuocWork
namespace Go.Proofs.Ybulkuoc
open Go.RowKit

theorem info21 : (Yba.prog.info? 21).map (fun i => (i.zero, i.size, i.bytes)) = some (some (.int .i32 0), 1, 4) := by kernel_rfl
/-- A through's 35 cells, as newThrough lays them. -/
def thr0 (N : Nat) (pl fs fp fo pAH pBT pTT pTL : Value) : Array Value := #[.int .i64 (N : Int), pl, fs, fp, fo, .int .i64 0, .slice none 0 0, .int .i64 (N : Int), .int .i64 0, .int .i64 0, .slice none 0 0, .slice none 0 0, .slice none 0 0, pAH, .bool false, pBT, .slice none 0 0, .slice none 0 0, pTT, pTL, .slice none 0 0, .int .i64 0, .slice none 0 0, .slice none 0 0, .slice none 0 0, .slice none 0 0, .int .i64 0, .slice none 0 0, .int .u8 0, .bool false, .int .i64 0, .slice none 0 0, .slice none 0 0, .slice none 0 0, .int .i64 0]
theorem build43 (n m : Int) (g gn gc f fn fc a b c d pa pb : Nat) (w : World) : (Instr.build 43 #[(0, .int .i64 n), (1, .slice (some ⟨g, 0, none⟩) gn gc), (2, .func (.func 20) #[] #[.pointer (some ⟨pa, 0, none⟩)]), (3, .func (.func 21) #[] #[.pointer (some ⟨pb, 0, none⟩)]), (4, .slice (some ⟨f, 0, none⟩) fn fc), (7, .int .i64 m), (13, .pointer (some ⟨a, 0, none⟩)), (15, .pointer (some ⟨b, 0, none⟩)), (18, .pointer (some ⟨c, 0, none⟩)), (19, .pointer (some ⟨d, 0, none⟩))]).run Yba.prog w =
    .ok (.agg #[.int .i64 n, .slice (some ⟨g, 0, none⟩) gn gc, .func (.func 20) #[] #[.pointer (some ⟨pa, 0, none⟩)], .func (.func 21) #[] #[.pointer (some ⟨pb, 0, none⟩)], .slice (some ⟨f, 0, none⟩) fn fc, .int .i64 0, .slice none 0 0, .int .i64 m, .int .i64 0, .int .i64 0, .slice none 0 0, .slice none 0 0, .slice none 0 0, .pointer (some ⟨a, 0, none⟩), .bool false, .pointer (some ⟨b, 0, none⟩), .slice none 0 0, .slice none 0 0, .pointer (some ⟨c, 0, none⟩), .pointer (some ⟨d, 0, none⟩), .slice none 0 0, .int .i64 0, .slice none 0 0, .slice none 0 0, .slice none 0 0, .slice none 0 0, .int .i64 0, .slice none 0 0, .int .u8 0, .bool false, .int .i64 0, .slice none 0 0, .slice none 0 0, .slice none 0 0, .int .i64 0]) w := run_build w 43 _ _ (by kernel_rfl)

theorem wpList_build {ops : Array Oper} {rest : List Oper} {o : Oper} {a : Act} {Q : Exit → Act → World → Prop} {w : World} {t : TypeId} (hgd : o.guard = none) (fs : Array (Nat × Operand)) (vs : Array (Nat × Value)) (v : Value) (ho : o.op = .build t fs) (hfs : (fs.map fun p => (p.1, a.eval p.2)) = vs) (hrun : (Instr.build t vs).run Yba.prog w = .ok v w) (h : wpList Yba.prog ops Q rest (a.put o.dst v) w) : wpList Yba.prog ops Q (o :: rest) a w := by
  refine wpList_plain hgd fun K hK => ?_
  unfold Oper.wp execOp
  simp only [ho]
  rw [show (fs.map fun x => (x.1, a.eval x.2)) = vs from hfs]
  simp [hrun, Result.andThen]
  exact hK _ _ h

set_option maxRecDepth 10000 in
set_option maxHeartbeats 1600000 in
theorem newThrough_calls (N pa pb f fn fc : Nat) (w : World) (hN : N ≤ 8) :
    Calls Yba.prog 22 #[.int .i64 (N : Nat), .int .i64 0, .func (.func 20) #[] #[.pointer (some ⟨pa, 0, none⟩)], .func (.func 21) #[] #[.pointer (some ⟨pb, 0, none⟩)], .slice (some ⟨f, 0, none⟩) fn fc] w fun r w' => r = .returned (.pointer (some ⟨w.heap.size + 5, 0, none⟩)) ∧ w' = (((((w.alloc (.cells (madeCells #[.int .i32 0] N) 21)).alloc (.cells #[.slice none 0 0, .slice none 0 0] 49)).alloc (.cells #[.slice none 0 0, .slice none 0 0] 49)).alloc (.cells #[.int .i64 0, .int .i64 0, .slice none 0 0, .slice none 0 0, .slice none 0 0, .int .i64 0, .slice none 0 0] 47)).alloc (.cells #[.int .i64 0, .int .i64 0, .slice none 0 0, .slice none 0 0, .slice none 0 0, .int .i64 0, .slice none 0 0] 47)).alloc
      (.cells (thr0 N (.slice (some ⟨w.heap.size, 0, none⟩) N N) (.func (.func 20) #[] #[.pointer (some ⟨pa, 0, none⟩)]) (.func (.func 21) #[] #[.pointer (some ⟨pb, 0, none⟩)]) (.slice (some ⟨f, 0, none⟩) fn fc) (.pointer (some ⟨w.heap.size + 1, 0, none⟩)) (.pointer (some ⟨w.heap.size + 2, 0, none⟩)) (.pointer (some ⟨w.heap.size + 3, 0, none⟩)) (.pointer (some ⟨w.heap.size + 4, 0, none⟩))) 43) := by
  have hmk : ∀ w, (Instr.makeSlice 31 (.int .i64 (N : Int)) (.int .i64 (N : Int))).run Yba.prog w = .ok (.slice (some ⟨w.heap.size, 0, none⟩) N N) (w.alloc (.cells (madeCells #[.int .i32 0] N) 21)) :=
    fun w => run_make_row' 31 21 (.int .i32 0) 4 Yba.underlying31 info21 rfl .i64 .i64 N (by omega) (by omega) w
  go_enter Yba.func22, Yba.ntmps22
  go_wp2_with (first
    | (refine wpList_build (t := 43) rfl _ #[(0, .int .i64 (N : Int)), (1, .slice (some ⟨w.heap.size, 0, none⟩) N N), (2, .func (.func 20) #[] #[.pointer (some ⟨pa, 0, none⟩)]), (3, .func (.func 21) #[] #[.pointer (some ⟨pb, 0, none⟩)]), (4, .slice (some ⟨f, 0, none⟩) fn fc), (7, .int .i64 (N : Int)), (13, .pointer (some ⟨w.heap.size + 1, 0, none⟩)), (15, .pointer (some ⟨w.heap.size + 1 + 1, 0, none⟩)), (18, .pointer (some ⟨w.heap.size + 1 + 1 + 1, 0, none⟩)), (19, .pointer (some ⟨w.heap.size + 1 + 1 + 1 + 1, 0, none⟩))] _ rfl (by first | kernel_rfl | (simp [Act.eval]; done) | (go_simp; done)) (build43 _ _ _ _ _ _ _ _ _ _ _ _ _ _ _) ?_; go_frame)
    | fail)
  go_ret
  exact ⟨rfl, rfl⟩
end Go.Proofs.Ybulkuoc
