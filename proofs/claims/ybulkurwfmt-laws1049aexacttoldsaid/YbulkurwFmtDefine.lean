import Derived.Test.YbulkurwFmtTexts
import Derived.Deep.RegionLaw
import Derived.BigRegion
import Derived.Deep.AppendLies
namespace Go.Proofs.YbulkurwFmt
open Go.RowKit Go.Extern.Stop Go.Stop Go.Extern
attribute [local go_sem] call11 fguard fmtEq fmtEqr fmtT fmtTr fmtD fmtDr fmtX fmtXr act24_118 isString24 str24 act22_120 op22_120 str22 act3_100 op3_100 str3 act9_115 op9_115 str9

theorem info9 : (Ybaf.prog.info? 9).map (fun i => (i.zero, i.size, i.bytes)) = some (some (.string ByteArray.empty), 1, 16) := by kernel_rfl

/-- fmt.Sprintf of three strings, at a step of a region that draws its order. -/
theorem step_def {ops : Array Oper} {o : Oper} {a : Act} {w : World} {K : Act → World → Prop} {Q : Exit → Act → World → Prop} {E : Prop} (hgd : o.guard = none) (x : Operand)
    (ho : o.op = .call { callee := .value (.func 11), args := #[.const (.string ⟨#[40, 100, 101, 102, 105, 110, 101, 45, 102, 117, 110, 32, 37, 115, 32, 40, 41, 32, 37, 115, 32, 37, 115, 41]⟩), x], argTypes := #[9, 40] })
    (F : Interp) (b : Nat) (s1 s2 s3 : ByteArray) (hx : a.eval x = .slice (some ⟨b, 0, none⟩) 3 3) (hF : F.answers w.tape) (h0 : w.cell? ⟨b, 0, none⟩ = some (.iface 9 (.string s1))) (h1 : w.cell? ⟨b, 1, none⟩ = some (.iface 9 (.string s2))) (h2 : w.cell? ⟨b, 2, none⟩ = some (.iface 9 (.string s3)))
    (h : ∀ t, K (a.put o.dst (.string t)) w.drew) : if Region.wanted o (yielded ops a.tmps) = true then Oper.wp Ybaf.prog o a w K Q else E := by
  have hw : Region.wanted o (yielded ops a.tmps) = true := by simp [Region.wanted, hgd]
  rw [if_pos hw]
  have hrun : (execOp a.eval o).run Ybaf.prog w = .ok (.row FmtCalls.turnsRow (FmtCalls.save 0 0 (.slice (some ⟨b, 0, none⟩) 3 3) ⟨#[40, 100, 101, 102, 105, 110, 101, 45, 102, 117, 110, 32, 37, 115, 32, 40, 41, 32, 37, 115, 32, 37, 115, 41]⟩ [] [(0, 115, false), (1, 115, false), (2, 115, false)])) w := by
    simp only [execOp, ho, resolve, List.map_toArray, List.map_cons, List.map_nil, hx]
    simp only [Act.eval]
    go_simp
  unfold Oper.wp
  rw [hrun]
  exact rows_def F b s1 s2 s3 w hF h0 h1 h2 h

/-- The script at block sb: n lines so far, in memory of the law's own. -/
structure Scr (w : World) (base sb n : Nat) (xs : List Value) : Prop where
  le : base ≤ sb
  ex : ∃ v, w.heap[sb]? = some (.cells #[.slice none 0 0, v] 35 (0, 0)) ∧ w.ownsRow base 9 1 v n xs

/-- The blocks of cells that are no strings and not the script's own are kept. -/
def Kept (w w' : World) (sb : Nat) : Prop := ∀ k cs t fr, k ≠ sb → t ≠ 9 → w.heap[k]? = some (.cells cs t fr) → w'.heap[k]? = some (.cells cs t fr)

theorem define_end {w w0 w1 : World} {base sb n g cap : Nat} {v : Value} {ys : List Value} {t2 : Value} (hbs : base ≤ sb) (hs : w.heap[sb]? = some (.cells #[.slice none 0 0, v] 35 (0, 0))) (hown : w.ownsRow base 9 1 v n ys) (hne : v.ownBlock ≠ some sb) (hB : Below w.heap.size w w0)
    (hgrow : w0.grownBy w1 v.ownBlock) (hat : v.ownBlock = some g ∨ w.heap.size ≤ g) (hown1 : w1.ownsRow base 9 1 (.slice (some ⟨g, 0, none⟩) (n + 1) cap) (n + 1) (ys ++ [t2])) :
    Scr (w1.setCell ⟨sb, 1, none⟩ (.slice (some ⟨g, 0, none⟩) (n + 1) cap)) base sb (n + 1) (ys ++ [t2]) ∧ Below base w (w1.setCell ⟨sb, 1, none⟩ (.slice (some ⟨g, 0, none⟩) (n + 1) cap)) ∧ Kept w (w1.setCell ⟨sb, 1, none⟩ (.slice (some ⟨g, 0, none⟩) (n + 1) cap)) sb := by
  have hlt : sb < w.heap.size := (Array.getElem?_eq_some_iff.1 hs).1
  have hs1 : w1.heap[sb]? = some (.cells #[.slice none 0 0, v] 35 (0, 0)) := (hgrow.block sb (by have := hB.size; omega) (Ne.symm hne)).trans ((hB.block sb hlt).trans hs)
  have hgne : g ≠ sb := by
    rcases hat with h | h
    · intro e; subst e; exact hne h
    · omega
  refine ⟨⟨hbs, _, ?_, ownsRow_setCell_other hown1 (by simp [Value.ownBlock, hgne]) _⟩, ?_, ?_⟩
  · simp [World.setCell, Array.getElem?_modify, hs1]
  · refine ((hB.mono (B' := base) (by omega)).grown hgrow (by have := hB.size; omega) ?_).setCell hbs _
    intro k hk
    rcases hown.2 with ⟨rfl, _⟩ | ⟨g', cap', cur', rfl, h2, _⟩
    · simp [Value.ownBlock] at hk
    · simp [Value.ownBlock] at hk
      omega
  · intro k cs t fr hk ht h
    have hkl : k < w.heap.size := (Array.getElem?_eq_some_iff.1 h).1
    have hkv : some k ≠ v.ownBlock := by
      intro e
      rcases hown.2 with ⟨rfl, _⟩ | ⟨g', cap', cur', rfl, _, hg, _⟩
      · simp [Value.ownBlock] at e
      · simp [Value.ownBlock] at e
        subst e
        rw [h] at hg
        simp at hg
        exact ht hg.2.1
    rw [Below.heap_setCell _ _ _ _ hk, hgrow.block k (by have := hB.size; omega) hkv, hB.block k hkl]
    exact h

set_option maxRecDepth 10000 in
set_option maxHeartbeats 800000 in
theorem define_calls (F : Interp) (base sb n : Nat) (xs : List Value) (sort expr : ByteArray) (w : World) (hF : F.answers w.tape) (hn : n ≤ 16) (hS : Scr w base sb n xs) :
    Calls Ybaf.prog 10 #[.pointer (some ⟨sb, 0, none⟩), .string sort, .string expr] w fun e w' => (∃ t, e = .returned (.string t)) ∧ (∃ y, Scr w' base sb (n + 1) (xs ++ [y])) ∧ Below base w w' ∧ Kept w w' sb := by
  obtain ⟨hbs, v, hs, hown⟩ := hS
  obtain ⟨i9, hi, hz0, hz1, hz2⟩ := info_parts info9
  have hlt : sb < w.heap.size := (Array.getElem?_eq_some_iff.1 hs).1
  have hc1 : w.cell? ⟨sb, 1, none⟩ = some v := by rw [cell_of_row w sb 1 _ 35 (0, 0) hs]; rfl
  have hf1 : w.frozen? ⟨sb, 1, none⟩ = false := by simp [World.frozen?, hs]
  have hsh : ∃ a c, v = .slice a n c := by
    rcases hown.2 with ⟨rfl, h0⟩ | ⟨g, cap, cur, rfl, _⟩
    · exact ⟨_, _, by rw [h0]⟩
    · exact ⟨_, _, rfl⟩
  obtain ⟨va, vc, rfl⟩ := hsh
  have hbw : base ≤ w.heap.size := by omega
  have hne : Value.ownBlock (.slice va n vc) ≠ some sb := by
    intro e
    rcases hown.2 with ⟨h1, _⟩ | ⟨g, cap, cur, h1, _, hg, _⟩
    · rw [h1] at e; simp [Value.ownBlock] at e
    · rw [h1] at e; simp [Value.ownBlock] at e
      subst e
      rw [hs] at hg
      cases hg
  go_enter Ybaf.func10, Ybaf.ntmps10
  go_wp2_with fail
  refine rows_dec F _ n _ (by exact hF) (by go_simp) ?_
  intro t
  go_wp2_with fail
  have hk3 : ∀ A B C : Obj, (((w.alloc A).alloc B).alloc C).drew.drew.drew.cell? ⟨sb, 1, none⟩ = some (.slice va n vc) ∧ (((w.alloc A).alloc B).alloc C).drew.drew.drew.frozen? ⟨sb, 1, none⟩ = false := fun A B C =>
    have hB := (((((((Below.refl _ w).alloc (Nat.le_refl _) A).alloc (by simp) B).alloc (by simp; omega) C).drew).drew).drew)
    ⟨cell_later hB hc1, (hB.frozen (p := ⟨sb, 1, none⟩) hlt).trans hf1⟩
  have hk2 : ∀ A B : Obj, ((w.alloc A).alloc B).drew.drew.cell? ⟨sb, 1, none⟩ = some (.slice va n vc) ∧ ((w.alloc A).alloc B).drew.drew.frozen? ⟨sb, 1, none⟩ = false := fun A B =>
    have hB := (((((Below.refl _ w).alloc (Nat.le_refl _) A).alloc (by simp) B).drew).drew)
    ⟨cell_later hB hc1, (hB.frozen (p := ⟨sb, 1, none⟩) hlt).trans hf1⟩
  have hk2' : ∀ A B : Obj, ((w.alloc A).alloc B).drew.drew.drew.cell? ⟨sb, 1, none⟩ = some (.slice va n vc) ∧ ((w.alloc A).alloc B).drew.drew.drew.frozen? ⟨sb, 1, none⟩ = false := fun A B => hk2 A B
  have hk1 : ∀ A : Obj, (w.alloc A).drew.drew.cell? ⟨sb, 1, none⟩ = some (.slice va n vc) ∧ (w.alloc A).drew.drew.frozen? ⟨sb, 1, none⟩ = false := fun A =>
    have hB := ((((Below.refl _ w).alloc (Nat.le_refl _) A).drew).drew)
    ⟨cell_later hB hc1, (hB.frozen (p := ⟨sb, 1, none⟩) hlt).trans hf1⟩
  go_region_law
    (first
      | (refine step_def (by rfl) _ (by rfl) F _ t sort expr (by rfl) (by exact hF) (by go_simp) (by go_simp) (by go_simp) ?_; intro t2)
      | (refine step_append_lies _ (by rfl) _ _ _ (by rfl) base 9 i9 _ 1 16 Ybaf.underlying33 hi hz0 hz1 hz2 rfl (by omega) (.slice va n vc) n xs (by rfl) (((hown.alloc _).alloc _).alloc _) ⟨w.heap.size + 1 + 1, 0, none⟩ 1 1 [.string t2] (by rfl) (by rfl) (World.news_of_block (cs := #[.string t2]) (t := 9) (fr := (0, 0)) (show ((((w.alloc _).alloc _).alloc _).heap[w.heap.size + 1 + 1]? = _) from by rw [show w.heap.size + 1 + 1 = ((w.alloc (.cells #[.iface 3 (.int .i64 n)] 20)).alloc (.cells #[.iface 9 (.string t), .iface 9 (.string sort), .iface 9 (.string expr)] 20)).heap.size from by simp]; exact heap_alloc_new _ _)) (by simp [Value.oneCell']) (by omega) (by unfold maxLen; omega) (by omega) (by simp; omega) (w.heap.size + 1 + 1 + 1) (by simp) ?_; intro g cap w1 hown1 hgrow hat hlt1; have hc9 := (hgrow.cell_far ⟨sb, 1, none⟩ (by simp; omega) (Ne.symm hne)).trans (hk3 _ _ _).1; have hf9 := (hgrow.frozen_far ⟨sb, 1, none⟩ (by simp; omega) (Ne.symm hne)).trans (hk3 _ _ _).2))
  all_goals
    go_wp2_with fail
    go_ret
    have hend := define_end hbs hs hown hne ((((((Below.refl _ w).alloc (Nat.le_refl _) _).alloc (by simp) _).alloc (by simp; omega) _).drew).drew).drew hgrow (hat.imp_right (by omega)) hown1
    exact ⟨⟨_, rfl⟩, ⟨_, hend.1⟩, hend.2⟩
end Go.Proofs.YbulkurwFmt
