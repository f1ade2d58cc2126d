/- (*Script).bool, .Bool, .Eq. -/
import Derived.Test.YbulkurwFmtDefine
namespace Go.Proofs.YbulkurwFmt
open Go.RowKit Go.Extern.Stop Go.Stop Go.Extern
attribute [local go_sem] call11 fguard fmtEq fmtEqr fmtT fmtTr fmtD fmtDr fmtX fmtXr act24_118 isString24 str24 act22_120 op22_120 str22 act3_100 op3_100 str3 act9_115 op9_115 str9

theorem Scr.lt {w : World} {base sb n : Nat} {xs : List Value} (h : Scr w base sb n xs) : sb < w.heap.size := by
  obtain ⟨hle, v, hs, hown⟩ := h
  exact (Array.getElem?_eq_some_iff.1 hs).1
theorem Scr.below {w w' : World} {base sb n : Nat} {xs : List Value} (h : Scr w base sb n xs) (hb : Below w.heap.size w w') : Scr w' base sb n xs := by
  have hlt := h.lt
  obtain ⟨hle, v, hs, hown⟩ := h
  exact ⟨hle, v, (hb.block sb hlt).trans hs, hown.kept (row := none) ⟨hb.os, hb.tape, hb.output, hb.size, fun i hi _ => hb.block i hi⟩ (by by_cases h : v.ownBlock = none; exact .inl h; exact .inr h)⟩
theorem Kept.below {w w' : World} {sb : Nat} (hb : Below w.heap.size w w') : Kept w w' sb := by
  intro k cs t fr _ _ h
  exact (hb.block k (Array.getElem?_eq_some_iff.1 h).1).trans h
theorem Kept.trans {w w' w'' : World} {sb : Nat} (h : Kept w w' sb) (h' : Kept w' w'' sb) : Kept w w'' sb := fun k cs t fr hk ht e => h' k cs t fr hk ht (h k cs t fr hk ht e)
theorem Kept.set {w w' : World} {sb : Nat} (h : Kept w w' sb) {a : Addr} (ha : w.heap.size ≤ a.block) (u : Value) : Kept w (w'.setCell a u) sb := by
  intro k cs t fr hk ht e
  have := (Array.getElem?_eq_some_iff.1 e).1
  rw [Below.heap_setCell _ _ _ _ (by omega)]
  exact h k cs t fr hk ht e
theorem Scr.set {w : World} {base sb n : Nat} {xs : List Value} (h : Scr w base sb n xs) {a : Addr} (hne : a.block ≠ sb) {cs : Array Value} {t : TypeId} {fr : Nat × Nat} (ht : t ≠ 9) (hr : w.heap[a.block]? = some (.cells cs t fr)) (u : Value) : Scr (w.setCell a u) base sb n xs := by
  obtain ⟨hle, v, hs, hown⟩ := h
  refine ⟨hle, v, ?_, ownsRow_setCell_other hown ?_ u⟩
  · rw [Below.heap_setCell _ _ _ _ (Ne.symm hne)]; exact hs
  · intro e
    rcases hown.2 with ⟨rfl, _⟩ | ⟨g', cap', cur', rfl, _, hg, _⟩
    · simp [Value.ownBlock] at e
    · simp [Value.ownBlock] at e
      rw [e, hr] at hg
      simp at hg
      exact ht hg.2.1
theorem cells_set {w : World} {b i : Nat} {cs : Array Value} {t : TypeId} (h : w.heap[b]? = some (.cells cs t (0, 0))) (v : Value) : (w.setCell ⟨b, i, none⟩ v).heap[b]? = some (.cells (cs.setIfInBounds i v) t (0, 0)) := by
  simp [World.setCell, Array.getElem?_modify, h]

/-- A struct of three cells is stored into a block of the call's own. -/
theorem three {w w2 : World} {base sb n rb : Nat} {xs : List Value} {c0 c1 c2 : Value} {t : TypeId} (x y z : Value) (hr2 : w2.heap[rb]? = some (.cells #[c0, c1, c2] t (0, 0))) (ht : t ≠ 9) (hne : rb ≠ sb) (hS : Scr w2 base sb n xs) (hbw : base ≤ rb) (hB : Below base w w2) (hrb : w.heap.size ≤ rb) (hK : Kept w w2 sb) :
    Scr (((w2.setCell ⟨rb, 0, none⟩ x).setCell ⟨rb, 1, none⟩ y).setCell ⟨rb, 2, none⟩ z) base sb n xs ∧ Below base w (((w2.setCell ⟨rb, 0, none⟩ x).setCell ⟨rb, 1, none⟩ y).setCell ⟨rb, 2, none⟩ z) ∧ Kept w (((w2.setCell ⟨rb, 0, none⟩ x).setCell ⟨rb, 1, none⟩ y).setCell ⟨rb, 2, none⟩ z) sb ∧ (((w2.setCell ⟨rb, 0, none⟩ x).setCell ⟨rb, 1, none⟩ y).setCell ⟨rb, 2, none⟩ z).heap[rb]? = some (.cells #[x, y, z] t (0, 0)) := by
  have e1 := cells_set (i := 0) hr2 x
  have e2 := cells_set (i := 1) e1 y
  have e3 := cells_set (i := 2) e2 z
  exact ⟨((hS.set (a := ⟨rb, 0, none⟩) hne ht hr2 x).set (a := ⟨rb, 1, none⟩) hne ht e1 y).set (a := ⟨rb, 2, none⟩) hne ht e2 z, ((hB.setCell hbw x).setCell hbw y).setCell hbw z, ((hK.set (a := ⟨rb, 0, none⟩) hrb x).set (a := ⟨rb, 1, none⟩) hrb y).set (a := ⟨rb, 2, none⟩) hrb z, e3⟩

set_option maxHeartbeats 800000 in
theorem Bool_calls (sb : Nat) (x : Bool) (w : World) :
    Calls Ybaf.prog 8 #[.pointer (some ⟨sb, 0, none⟩), .bool x] w fun e w' => e = .returned (.agg #[.string ⟨#[]⟩, .bool x, .bool true]) ∧ Below w.heap.size w w' := by
  go_enter Ybaf.func8, Ybaf.ntmps8
  go_wp2
  refine bodyPost_ret (v := .agg #[.string ⟨#[]⟩, .bool x, .bool true]) (by simp [results, Ybaf.results8, go_sem]) rfl ?_
  exact ⟨rfl, (Below.refl _ w).alloc (Nat.le_refl _) _⟩

set_option maxHeartbeats 800000 in
theorem bool_calls (F : Interp) (base sb n b : Nat) (xs : List Value) (n1 n2 : ByteArray) (v1 v2 : Int) (f1 f2 : Bool) (w : World) (hF : F.answers w.tape) (hn : n ≤ 16) (hbw : base ≤ w.heap.size) (hS : Scr w base sb n xs) (hb : b < w.heap.size) (h0 : w.cell? ⟨b, 0, none⟩ = some (.iface 24 (.agg #[.string n1, .int .u64 v1, .bool f1]))) (h1 : w.cell? ⟨b, 1, none⟩ = some (.iface 24 (.agg #[.string n2, .int .u64 v2, .bool f2]))) :
    Calls Ybaf.prog 9 #[.pointer (some ⟨sb, 0, none⟩), .string ⟨#[40, 61, 32, 37, 118, 32, 37, 118, 41]⟩, .slice (some ⟨b, 0, none⟩) 2 2] w fun e w' => (∃ t, e = .returned (.agg #[.string t, .bool false, .bool false])) ∧ (∃ y, Scr w' base sb (n + 1) (xs ++ [y])) ∧ Below base w w' ∧ Kept w w' sb := by
  have hlt := hS.lt
  go_enter Ybaf.func9, Ybaf.ntmps9
  go_wp2_with fail
  refine rows_eq F b n1 n2 v1 v2 f1 f2 _ (by exact hF) (by simp; omega) (by go_simp) (by go_simp) ?_
  intro t w1 hb1
  have hB1 : Below w.heap.size w w1 := ((Below.refl _ w).alloc (Nat.le_refl _) _).trans (hb1.mono (by simp))
  have hr1 : w1.heap[w.heap.size]? = some (.cells #[.string ⟨#[]⟩, .bool false, .bool false] 30 (0, 0)) := (hb1.block _ (by simp)).trans (heap_alloc_new _ _)
  go_wp2_with fail
  refine Calls.mono (define_calls F base sb n xs _ _ w1 (by rw [hB1.tape]; exact hF) hn (hS.below hB1)) ?_
  rintro e w2 ⟨⟨t2, rfl⟩, ⟨y, hS2⟩, hB2, hk2⟩
  have hr2 : w2.heap[w.heap.size]? = some (.cells #[.string ⟨#[]⟩, .bool false, .bool false] 30 (0, 0)) := hk2 _ _ _ _ (by omega) (by decide) hr1
  have c0 : w2.cell? ⟨w.heap.size, 0, none⟩ = some (.string ⟨#[]⟩) := by rw [cell_of_row w2 _ 0 _ 30 (0, 0) hr2]; rfl
  have c1 : w2.cell? ⟨w.heap.size, 1, none⟩ = some (.bool false) := by rw [cell_of_row w2 _ 1 _ 30 (0, 0) hr2]; rfl
  have c2 : w2.cell? ⟨w.heap.size, 2, none⟩ = some (.bool false) := by rw [cell_of_row w2 _ 2 _ 30 (0, 0) hr2]; rfl
  have f0 : w2.frozen? ⟨w.heap.size, 0, none⟩ = false := by simp [World.frozen?, hr2]
  have f1 : w2.frozen? ⟨w.heap.size, 1, none⟩ = false := by simp [World.frozen?, hr2]
  have f2 : w2.frozen? ⟨w.heap.size, 2, none⟩ = false := by simp [World.frozen?, hr2]
  go_wp2_with fail
  obtain ⟨r1, r2, r3, r4⟩ := three (w := w) (.string t2) (.bool false) (.bool false) hr2 (by decide) (by omega) hS2 hbw ((hB1.mono hbw).trans hB2) (Nat.le_refl _) ((Kept.below hB1).trans hk2)
  have d0 := cell_of_row _ _ 0 _ 30 (0, 0) r4
  have d1 := cell_of_row _ _ 1 _ 30 (0, 0) r4
  have d2 := cell_of_row _ _ 2 _ 30 (0, 0) r4
  generalize hw3 : ((w2.setCell { block := w.heap.size, off := 0 } (Value.string t2)).setCell { block := w.heap.size, off := 1 } (Value.bool false)).setCell { block := w.heap.size, off := 2 } (Value.bool false) = w3 at *
  refine bodyPost_ret (v := .agg #[.string t2, .bool false, .bool false]) (by simp [results, Ybaf.results9, go_sem, d0, d1, d2]) rfl ?_
  exact ⟨⟨_, rfl⟩, ⟨_, r1⟩, r2, r3⟩
end Go.Proofs.YbulkurwFmt
