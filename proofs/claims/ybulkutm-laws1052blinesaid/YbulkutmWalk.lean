/- LawS1052BLine: the walk. -/
import Derived.Test.YbulkutmKernel
import Derived.Deep.AppendLies
import Derived.Below
namespace Go.Proofs.Ybulkutm
open Go.RowKit Go.Maps Go.WideMaps

theorem eKK : ((⟨#[107, 101, 114, 110, 101, 108]⟩ : ByteArray) = kK) = True := by simp [kK]
theorem eKO : ((⟨#[107, 101, 114, 110, 101, 108]⟩ : ByteArray) = kO) = False := by simp [kO]
theorem eOK : ((⟨#[107, 101, 114, 110, 101, 108, 95, 111, 112, 116, 105, 111, 110, 115]⟩ : ByteArray) = kK) = False := by simp [kK]
theorem eOO : ((⟨#[107, 101, 114, 110, 101, 108, 95, 111, 112, 116, 105, 111, 110, 115]⟩ : ByteArray) = kO) = True := by simp [kO]

set_option maxRecDepth 10000 in
set_option maxHeartbeats 1000000 in
theorem walk_nil (a1 : Bool) (a2 : ByteArray) (a3 : Bool) (a4 : ByteArray) (a5 : ByteArray) (a6 : ByteArray) (w : World) :
    Calls Yba.prog 3 #[.bool true, .bool a1, .string a2, .bool a3, .string a4, .string a5, .string a6] w fun e w' => e = .returned (.bool true) ∧ Below w.heap.size w w' := by
  have hn1 := fun w : World => look_nil (w := w) true law9 Yba.underlying24 (zero9 w) (keyOf_string_mk Yba.underlying9 (s := kK) (by decide))
  have hn2 := fun w : World => look_nil (w := w) false law9 Yba.underlying24 (zero9 w) (keyOf_string_mk Yba.underlying9 (s := kO) (by decide))
  go_enter Yba.func3, Yba.ntmps3
  go_wp2_with fail
  refine Calls.mono (kernel_walk w.heap.size (w.alloc (.cells #[.map none, .slice none 0 0, .slice none 0 0] 27)) (.map none) ByteArray.empty ByteArray.empty false (by go_simp) (hn1 _) (hn2 _) (by decide) (by decide)) ?_
  rintro e w' ⟨rfl, rfl⟩
  go_wp2
  go_ret
  refine ⟨by simp [line], ?_⟩
  exact ((Below.refl _ _).alloc (Nat.le_refl _) _)

set_option linter.unusedSimpArgs false in
set_option maxRecDepth 10000 in
set_option maxHeartbeats 4000000 in
theorem walk_env (a1 : Bool) (a2 : ByteArray) (a3 : Bool) (a4 : ByteArray) (a5 : ByteArray) (a6 : ByteArray) (z2 : a2.size ≤ 140737488351232) (z4 : a4.size ≤ 140737488351232) (z5 : a5.size ≤ 140737488351232) (z6 : a6.size ≤ 140737488351232) (w : World) :
    Calls Yba.prog 3 #[.bool false, .bool a1, .string a2, .bool a3, .string a4, .string a5, .string a6] w fun e w' => e = .returned (.bool true) ∧ Below w.heap.size w w' := by
  have hmk (w : World) : (Instr.makeMap 24 none).run Yba.prog w = .ok (.map (some w.heap.size)) (w.alloc (.map #[] 0)) := by kernel_rfl
  have hS : Says ((w.alloc (.cells #[.map none, .slice none 0 0, .slice none 0 0] 27)).alloc (.map #[] 0)) (w.heap.size + 1) 0 false ByteArray.empty ByteArray.empty := by
    have := Says.made (w.alloc (.cells #[.map none, .slice none 0 0, .slice none 0 0] 27))
    simpa using this
  have hc : ((w.alloc (.cells #[.map none, .slice none 0 0, .slice none 0 0] 27)).alloc (.map #[] 0)).cell? ⟨w.heap.size, 0, none⟩ = some (.map none) := by go_simp
  have hf : ((w.alloc (.cells #[.map none, .slice none 0 0, .slice none 0 0] 27)).alloc (.map #[] 0)).frozen? ⟨w.heap.size, 0, none⟩ = false := by go_simp
  have hl : w.heap.size + 2 ≤ ((w.alloc (.cells #[.map none, .slice none 0 0, .slice none 0 0] 27)).alloc (.map #[] 0)).heap.size := by simp
  have hB : Below w.heap.size w ((w.alloc (.cells #[.map none, .slice none 0 0, .slice none 0 0] 27)).alloc (.map #[] 0)) := ((Below.refl _ w).alloc (Nat.le_refl _) _).alloc (by simp) _
  have hKp : (a5 = kK) = True ∧ (a5.toList == [107, 101, 114, 110, 101, 108]) = true ∨ (a5 = kK) = False ∧ (a5.toList == [107, 101, 114, 110, 101, 108]) = false := by
    by_cases h : a5 = kK
    · exact .inl ⟨eq_true h, by rw [h, ByteArray.toList_eq]; rfl⟩
    · exact .inr ⟨eq_false h, by rw [beq_eq_false_iff_ne, ByteArray.toList_eq]; exact fun e => h (WideShapes.bytes_inj e)⟩
  have hOp : (a5 = kO) = True ∧ (a5.toList == [107, 101, 114, 110, 101, 108, 95, 111, 112, 116, 105, 111, 110, 115]) = true ∨ (a5 = kO) = False ∧ (a5.toList == [107, 101, 114, 110, 101, 108, 95, 111, 112, 116, 105, 111, 110, 115]) = false := by
    by_cases h : a5 = kO
    · exact .inl ⟨eq_true h, by rw [h, ByteArray.toList_eq]; rfl⟩
    · exact .inr ⟨eq_false h, by rw [beq_eq_false_iff_ne, ByteArray.toList_eq]; exact fun e => h (WideShapes.bytes_inj e)⟩
  cases a1 <;> cases a3 <;> rcases hKp with ⟨hKp, hK⟩ | ⟨hKp, hK⟩ <;> rcases hOp with ⟨hOp, hO⟩ | ⟨hOp, hO⟩ <;> cases h4 : a4.toList.isEmpty <;> cases h6 : a6.toList.isEmpty
  all_goals
    go_enter Yba.func3, Yba.ntmps3
    go_wp2_with (first
      | (at_mapUpdate; refine wpList_says _ rfl _ _ _ rfl hS (by decide) _ _ (by rfl) (by rfl) (by rfl) (by first | decide | (unfold maxLen; omega)) (by unfold maxLen; omega) ?_; intro w1 hS hg; simp only [hKp, hOp, eKK, eKO, eOK, eOO, if_true, if_false, ite_true, ite_false] at hS; replace hc := (hg.cell_far ⟨w.heap.size, 0, none⟩ (by simp; omega) (by simp)).trans hc; replace hf := (hg.frozen_far ⟨w.heap.size, 0, none⟩ (by simp; omega) (by simp)).trans hf; replace hB := hB.grown hg (by omega) (by simp); replace hl := Nat.le_trans hl hg.size; clear hg)
      | fail)
    refine Calls.mono (Says.calls (hS.store (a := ⟨w.heap.size, 0, none⟩) (by simp) _) (by go_simp) (by first | omega | decide) (by first | omega | decide)) ?_
    rintro e w' ⟨rfl, rfl⟩
    go_wp2
    go_ret
    refine ⟨?_, hB.setCell (by simp) _⟩
    simp [line, kK, ← ByteArray.append_assoc, h4, h6]
end Go.Proofs.Ybulkutm
