/- LawS1049AExact: the walk. -/
import Derived.Test.YbulkurwFmtScript
namespace Go.Proofs.YbulkurwFmt
open Go.RowKit Go.Extern.Stop Go.Stop Go.Extern

/-- A block of three cells, and that it stays. -/
structure Tri (w : World) (b : Nat) (x y z : Value) : Prop where
  lt : b < w.heap.size
  c0 : w.cell? ⟨b, 0, none⟩ = some x
  c1 : w.cell? ⟨b, 1, none⟩ = some y
  c2 : w.cell? ⟨b, 2, none⟩ = some z
theorem Tri.new (w : World) (x y z : Value) (t : TypeId) : Tri (w.alloc (.cells #[x, y, z] t)) w.heap.size x y z :=
  have h := heap_alloc_new w (.cells #[x, y, z] t)
  ⟨by simp, (cell_of_row _ _ 0 _ t (0, 0) h), (cell_of_row _ _ 1 _ t (0, 0) h), (cell_of_row _ _ 2 _ t (0, 0) h)⟩
theorem Tri.later {w w' : World} {b : Nat} {x y z : Value} (h : Tri w b x y z) (hb : Below w.heap.size w w') : Tri w' b x y z :=
  ⟨Nat.lt_of_lt_of_le h.lt hb.size, (hb.cell h.lt).trans h.c0, (hb.cell h.lt).trans h.c1, (hb.cell h.lt).trans h.c2⟩
theorem Tri.alloc {w : World} {b : Nat} {x y z : Value} (h : Tri w b x y z) (o : Obj) : Tri (w.alloc o) b x y z := h.later ((Below.refl _ w).alloc (Nat.le_refl _) o)

theorem Scr.cells {w : World} {base sb n : Nat} {xs : List Value} (h : Scr w base sb n xs) : ∃ a cap, w.cell? ⟨sb, 0, none⟩ = some (.slice none 0 0) ∧ w.cell? ⟨sb, 1, none⟩ = some (.slice a n cap) := by
  obtain ⟨hle, v, hs, hown⟩ := h
  have hsh : ∃ a c, v = .slice a n c := by
    rcases hown.2 with ⟨rfl, h0⟩ | ⟨g, cap, cur, rfl, _⟩
    · exact ⟨_, _, by rw [h0]⟩
    · exact ⟨_, _, rfl⟩
  obtain ⟨a, cap, rfl⟩ := hsh
  exact ⟨a, cap, (cell_of_row w sb 0 _ 35 (0, 0) hs), (cell_of_row w sb 1 _ 35 (0, 0) hs)⟩

set_option maxRecDepth 10000 in
set_option maxHeartbeats 1600000 in
theorem law_both (v1 n1 v2 n2 : Int) (c k : Nat) (w : World) (a0 : 0 ≤ n1) (a1 : n1 < 256) (b0 : 0 ≤ n2) (b1 : n2 < 256) (hc : c < 256) (hk : (c : Int) % 8 = (k : Int)) :
    Calls Ybaf.prog 3 #[.bool true, .int .u64 v1, .int .u8 n1, .bool true, .int .u64 v2, .int .u8 n2, .int .u8 c] w fun e w' => e = .returned (.bool true) ∧ Below w.heap.size w w' := by
  go_enter Ybaf.func3, Ybaf.ntmps3
  go_wp2_with fail
  refine Calls.mono (word_calls true v1 n1 a0 a1 w) ?_
  rintro e w1 ⟨rfl, hB1⟩
  simp only [word, if_true]
  go_wp2_with fail
  have hT1 := Tri.new w1 (.string ⟨#[]⟩) (.int .u64 v1) (.bool true) 24
  have hB1' := hB1.alloc hB1.size (.cells #[.string ⟨#[]⟩, .int .u64 v1, .bool true] 24)
  refine Calls.mono (word_calls true v2 n2 b0 b1 _) ?_
  rintro e w2 ⟨rfl, hB2⟩
  simp only [word, if_true]
  go_wp2_with fail
  have hT1' := (hT1.later hB2).alloc (.cells #[.string ⟨#[]⟩, .int .u64 v2, .bool true] 24)
  have hT2 := Tri.new w2 (.string ⟨#[]⟩) (.int .u64 v2) (.bool true) 24
  have hB2' : Below w.heap.size w (w2.alloc (.cells #[.string ⟨#[]⟩, .int .u64 v2, .bool true] 24)) := (hB1'.trans (hB2.mono hB1'.size)).alloc (Nat.le_trans hB1'.size hB2.size) _
  refine Calls.mono (script_calls c k hc hk _) ?_
  rintro e w3 ⟨rfl, hS, hB3⟩
  rw [show (w2.alloc (.cells #[.string ⟨#[]⟩, .int .u64 v2, .bool true] 24)).heap.size = w2.heap.size + 1 from by simp] at hS
  have hB3' := hB2'.trans (hB3.mono hB2'.size)
  obtain ⟨-, p0, p1, p2⟩ := hT1'.later hB3
  obtain ⟨-, q0, q1, q2⟩ := hT2.later hB3
  go_wp2_with fail
  refine Calls.mono (Eq_fixed _ _ _ _ _ w3) ?_
  rintro e w4 ⟨rfl, hB4⟩
  obtain ⟨ad, cap, s0, s1⟩ := (hS.below hB4).cells
  have hlt := (hS.below hB4).lt
  have hB4' := hB3'.trans (hB4.mono hB3'.size)
  have s3 : ∀ A : Obj, (w4.alloc A).cell? ⟨w2.heap.size + 1, 1, none⟩ = some (.slice ad k cap) := fun A => cell_later ((Below.refl _ w4).alloc (Nat.le_refl _) A) s1
  have s4 : ∀ A B : Obj, ((w4.alloc A).alloc B).cell? ⟨w2.heap.size + 1, 1, none⟩ = some (.slice ad k cap) := fun A B => cell_later (((Below.refl _ w4).alloc (Nat.le_refl _) A).alloc (by simp) B) s1
  clear hB1 hT1 hB1' hB2 hT1' hT2 hB2' hB3 hB3' hB4 p0 p1 p2 q0 q1 q2
  go_wp2_with fail
  go_ret
  exact ⟨rfl, (hB4'.alloc hB4'.size _).alloc (by simp; have := hB4'.size; omega) _⟩
set_option maxRecDepth 10000 in
set_option maxHeartbeats 1600000 in
theorem law_same (v1 n1 v2 n2 : Int) (c k : Nat) (w : World) (a0 : 0 ≤ n1) (a1 : n1 < 256) (b0 : 0 ≤ n2) (b1 : n2 < 256) (hc : c < 256) (hk : (c : Int) % 8 = (k : Int)) (hm : n1 % 3 = n2 % 3) :
    Calls Ybaf.prog 3 #[.bool false, .int .u64 v1, .int .u8 n1, .bool false, .int .u64 v2, .int .u8 n2, .int .u8 c] w fun e w' => e = .returned (.bool true) ∧ Below w.heap.size w w' := by
  have hnm : word false v2 n2 = word false v1 n1 := by simp [word, nm, hm]
  go_enter Ybaf.func3, Ybaf.ntmps3
  go_wp2_with fail
  refine Calls.mono (word_calls false v1 n1 a0 a1 w) ?_
  rintro e w1 ⟨rfl, hB1⟩
  simp only [word, Bool.false_eq_true, if_false]
  go_wp2_with fail
  have hT1 := Tri.new w1 (.string (nm n1)) (.int .u64 0) (.bool false) 24
  have hB1' := hB1.alloc hB1.size (.cells #[.string (nm n1), .int .u64 0, .bool false] 24)
  refine Calls.mono (word_calls false v2 n2 b0 b1 _) ?_
  rintro e w2 ⟨rfl, hB2⟩
  rw [hnm]
  simp only [word, Bool.false_eq_true, if_false]
  go_wp2_with fail
  have hT1' := (hT1.later hB2).alloc (.cells #[.string (nm n1), .int .u64 0, .bool false] 24)
  have hT2 := Tri.new w2 (.string (nm n1)) (.int .u64 0) (.bool false) 24
  have hB2' : Below w.heap.size w (w2.alloc (.cells #[.string (nm n1), .int .u64 0, .bool false] 24)) := (hB1'.trans (hB2.mono hB1'.size)).alloc (Nat.le_trans hB1'.size hB2.size) _
  refine Calls.mono (script_calls c k hc hk _) ?_
  rintro e w3 ⟨rfl, hS, hB3⟩
  rw [show (w2.alloc (.cells #[.string (nm n1), .int .u64 0, .bool false] 24)).heap.size = w2.heap.size + 1 from by simp] at hS
  have hB3' := hB2'.trans (hB3.mono hB2'.size)
  obtain ⟨-, p0, p1, p2⟩ := hT1'.later hB3
  obtain ⟨-, q0, q1, q2⟩ := hT2.later hB3
  go_wp2_with fail
  refine Calls.mono (Eq_same _ _ w3) ?_
  rintro e w4 ⟨rfl, hB4⟩
  obtain ⟨ad, cap, s0, s1⟩ := (hS.below hB4).cells
  have hlt := (hS.below hB4).lt
  have hB4' := hB3'.trans (hB4.mono hB3'.size)
  have s3 : ∀ A : Obj, (w4.alloc A).cell? ⟨w2.heap.size + 1, 1, none⟩ = some (.slice ad k cap) := fun A => cell_later ((Below.refl _ w4).alloc (Nat.le_refl _) A) s1
  have s4 : ∀ A B : Obj, ((w4.alloc A).alloc B).cell? ⟨w2.heap.size + 1, 1, none⟩ = some (.slice ad k cap) := fun A B => cell_later (((Below.refl _ w4).alloc (Nat.le_refl _) A).alloc (by simp) B) s1
  clear hB1 hT1 hB1' hB2 hT1' hT2 hB2' hB3 hB3' hB4 p0 p1 p2 q0 q1 q2
  go_wp2_with fail
  go_ret
  exact ⟨rfl, (hB4'.alloc hB4'.size _).alloc (by simp; have := hB4'.size; omega) _⟩
end Go.Proofs.YbulkurwFmt
