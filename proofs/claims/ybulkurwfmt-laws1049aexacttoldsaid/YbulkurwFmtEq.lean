/- (*Script).Eq. -/
import Derived.Test.YbulkurwFmtBool
namespace Go.Proofs.YbulkurwFmt
open Go.RowKit Go.Extern.Stop Go.Stop Go.Extern

set_option maxHeartbeats 800000 in
theorem Eq_fixed (sb : Nat) (n1 n2 : ByteArray) (v1 v2 : Int) (w : World) :
    Calls Ybaf.prog 7 #[.pointer (some ⟨sb, 0, none⟩), .agg #[.string n1, .int .u64 v1, .bool true], .agg #[.string n2, .int .u64 v2, .bool true]] w fun e w' => e = .returned (.agg #[.string ⟨#[]⟩, .bool (v1 == v2), .bool true]) ∧ Below w.heap.size w w' := by
  go_enter Ybaf.func7, Ybaf.ntmps7
  go_wp2
  refine bodyPost_ret (v := .agg #[.string ⟨#[]⟩, .bool (v1 == v2), .bool true]) (by simp [results, Ybaf.results8, go_sem]) rfl ?_
  dsimp only
  go_wp2
  refine bodyPost_ret (v := .agg #[.string ⟨#[]⟩, .bool (v1 == v2), .bool true]) (by simp [results, Ybaf.results7, go_sem]) rfl ?_
  exact ⟨rfl, (((((Below.refl _ w).alloc (Nat.le_refl _) _).alloc (by simp) _).alloc (by simp; omega) _).alloc (by simp; omega) _)⟩

set_option maxHeartbeats 800000 in
theorem Eq_same (sb : Nat) (nm : ByteArray) (w : World) :
    Calls Ybaf.prog 7 #[.pointer (some ⟨sb, 0, none⟩), .agg #[.string nm, .int .u64 0, .bool false], .agg #[.string nm, .int .u64 0, .bool false]] w fun e w' => e = .returned (.agg #[.string ⟨#[]⟩, .bool true, .bool true]) ∧ Below w.heap.size w w' := by
  go_enter Ybaf.func7, Ybaf.ntmps7
  go_wp2
  refine bodyPost_ret (v := .agg #[.string ⟨#[]⟩, .bool true, .bool true]) (by simp [results, Ybaf.results8, go_sem]) rfl ?_
  dsimp only
  go_wp2
  refine bodyPost_ret (v := .agg #[.string ⟨#[]⟩, .bool true, .bool true]) (by simp [results, Ybaf.results7, go_sem]) rfl ?_
  exact ⟨rfl, (((((Below.refl _ w).alloc (Nat.le_refl _) _).alloc (by simp) _).alloc (by simp; omega) _).alloc (by simp; omega) _)⟩

set_option maxHeartbeats 800000 in
theorem Eq_diff (F : Interp) (base sb n : Nat) (xs : List Value) (n1 n2 : ByteArray) (v1 v2 : Int) (f1 f2 : Bool) (w : World) (hF : F.answers w.tape) (hn : n ≤ 16) (hbw : base ≤ w.heap.size) (hS : Scr w base sb n xs) (hd : f1 = true ∧ f2 = false ∨ f1 = false ∧ f2 = true ∨ f1 = false ∧ f2 = false ∧ (n1.toList == n2.toList) = false) :
    Calls Ybaf.prog 7 #[.pointer (some ⟨sb, 0, none⟩), .agg #[.string n1, .int .u64 v1, .bool f1], .agg #[.string n2, .int .u64 v2, .bool f2]] w fun e w' => (∃ t, e = .returned (.agg #[.string t, .bool false, .bool false])) ∧ (∃ y, Scr w' base sb (n + 1) (xs ++ [y])) ∧ Below base w w' := by
  have hlt := hS.lt
  have hB1 : ∀ A B C D : Obj, Below w.heap.size w ((((w.alloc A).alloc B).alloc C).alloc D) := fun A B C D => ((((Below.refl w.heap.size w).alloc (Nat.le_refl _) A).alloc (by simp) B).alloc (by simp; omega) C).alloc (by simp; omega) D
  have hA : ∀ A B C D : Obj, ((((w.alloc A).alloc B).alloc C).alloc D).heap[w.heap.size + 1 + 1]? = some C := fun A B C D => (Below.heap_alloc _ _ _ (by simp)).trans (by rw [show w.heap.size + 1 + 1 = ((w.alloc A).alloc B).heap.size from by simp]; exact heap_alloc_new _ _)
  rcases hd with ⟨rfl, rfl⟩ | ⟨rfl, rfl⟩ | ⟨rfl, rfl, hne⟩
  all_goals
    go_enter Ybaf.func7, Ybaf.ntmps7
    go_wp2_with fail
    refine Calls.mono (bool_calls F base sb n _ xs n1 n2 v1 v2 _ _ _ (by exact hF) hn (Nat.le_trans hbw (hB1 _ _ _ _).size) (hS.below (hB1 _ _ _ _)) (by simp) (by go_simp; rfl) (by go_simp; rfl)) ?_
    rintro e w2 ⟨⟨t2, rfl⟩, ⟨y, hS2⟩, hB2, hk2⟩
    have hr2 : w2.heap[w.heap.size + 1 + 1]? = some (.cells #[.string ⟨#[]⟩, .bool false, .bool false] 30 (0, 0)) := hk2 _ _ _ _ (by omega) (by decide) (hA _ _ _ _)
    have c0 : w2.cell? ⟨w.heap.size + 1 + 1, 0, none⟩ = some (.string ⟨#[]⟩) := by rw [cell_of_row w2 _ 0 _ 30 (0, 0) hr2]; rfl
    have c1 : w2.cell? ⟨w.heap.size + 1 + 1, 1, none⟩ = some (.bool false) := by rw [cell_of_row w2 _ 1 _ 30 (0, 0) hr2]; rfl
    have c2 : w2.cell? ⟨w.heap.size + 1 + 1, 2, none⟩ = some (.bool false) := by rw [cell_of_row w2 _ 2 _ 30 (0, 0) hr2]; rfl
    have f0 : w2.frozen? ⟨w.heap.size + 1 + 1, 0, none⟩ = false := by simp [World.frozen?, hr2]
    have f1 : w2.frozen? ⟨w.heap.size + 1 + 1, 1, none⟩ = false := by simp [World.frozen?, hr2]
    have f2 : w2.frozen? ⟨w.heap.size + 1 + 1, 2, none⟩ = false := by simp [World.frozen?, hr2]
    go_wp2_with fail
    obtain ⟨r1, r2, r3, r4⟩ := three (w := w) (.string t2) (.bool false) (.bool false) hr2 (by decide) (by omega) hS2 (by omega) (((hB1 _ _ _ _).mono hbw).trans hB2) (by omega) ((Kept.below (hB1 _ _ _ _)).trans hk2)
    have d0 := cell_of_row _ _ 0 _ 30 (0, 0) r4
    have d1 := cell_of_row _ _ 1 _ 30 (0, 0) r4
    have d2 := cell_of_row _ _ 2 _ 30 (0, 0) r4
    generalize hw3 : ((w2.setCell { block := w.heap.size + 1 + 1, off := 0 } (Value.string t2)).setCell { block := w.heap.size + 1 + 1, off := 1 } (Value.bool false)).setCell { block := w.heap.size + 1 + 1, off := 2 } (Value.bool false) = w3 at *
    refine bodyPost_ret (v := .agg #[.string t2, .bool false, .bool false]) (by simp [results, Ybaf.results7, go_sem, d0, d1, d2]) rfl ?_
    exact ⟨⟨_, rfl⟩, ⟨_, r1⟩, r2⟩
end Go.Proofs.YbulkurwFmt
