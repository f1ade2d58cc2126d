/- LawS1049AExact: the walk where a line is added. -/
import Derived.Test.YbulkurwFmtWalkA
namespace Go.Proofs.YbulkurwFmt
open Go.RowKit Go.Extern.Stop Go.Stop Go.Extern

theorem nm_ne {n1 n2 : Int} (h : n1 % 3 ≠ n2 % 3) : ((nm n1).toList == (nm n2).toList) = false := by
  rw [beq_eq_false_iff_ne, ByteArray.toList_eq, ByteArray.toList_eq]
  intro e
  have e := WideShapes.bytes_inj e
  unfold nm at e
  revert e
  have h1 : n1 % 3 = 0 ∨ n1 % 3 = 1 ∨ n1 % 3 = 2 := by omega
  have h2 : n2 % 3 = 0 ∨ n2 % 3 = 1 ∨ n2 % 3 = 2 := by omega
  rcases h1 with h1 | h1 | h1 <;> rcases h2 with h2 | h2 | h2 <;> first | omega | simp [h1, h2]

theorem Scr.rows {w : World} {base sb n : Nat} {xs : List Value} (h : Scr w base sb n xs) (hn : 0 < n) : ∃ g cap, g < w.heap.size ∧ w.cell? ⟨sb, 0, none⟩ = some (.slice none 0 0) ∧ w.cell? ⟨sb, 1, none⟩ = some (.slice (some ⟨g, 0, none⟩) n cap) ∧ ∀ j, j < n → w.cell? ⟨g, j, none⟩ = xs[j]? := by
  obtain ⟨hle, v, hs, hown⟩ := h
  obtain ⟨g, cap, rfl, _, hg⟩ := hown.form hn
  exact ⟨g, cap, hg, (cell_of_row w sb 0 _ 35 (0, 0) hs), (cell_of_row w sb 1 _ 35 (0, 0) hs), fun j hj => hown.cellAt j (by omega)⟩

set_option maxRecDepth 10000 in
set_option maxHeartbeats 1600000 in
theorem law_tf (F : Interp) (v1 n1 v2 n2 : Int) (c k : Nat) (w : World) (hF : F.answers w.tape) (a0 : 0 ≤ n1) (a1 : n1 < 256) (b0 : 0 ≤ n2) (b1 : n2 < 256) (hc : c < 256) (hk : (c : Int) % 8 = (k : Int)) :
    Calls Ybaf.prog 3 #[.bool true, .int .u64 v1, .int .u8 n1, .bool false, .int .u64 v2, .int .u8 n2, .int .u8 c] w fun e w' => e = .returned (.bool true) ∧ Below w.heap.size w w' := by
  have hk8 : k < 8 := by omega
  go_enter Ybaf.func3, Ybaf.ntmps3
  go_wp2_with fail
  refine Calls.mono (word_calls true v1 n1 a0 a1 w) ?_
  rintro e w1 ⟨rfl, hB1⟩
  simp only [word, if_true]
  go_wp2_with fail
  have hT1 := Tri.new w1 (.string ⟨#[]⟩) (.int .u64 v1) (.bool true) 24
  have hB1' := hB1.alloc hB1.size (.cells #[.string ⟨#[]⟩, .int .u64 v1, .bool true] 24)
  refine Calls.mono (word_calls false v2 n2 b0 b1 _) ?_
  rintro e w2 ⟨rfl, hB2⟩
  simp only [word, Bool.false_eq_true, if_false]
  go_wp2_with fail
  have hT1' := (hT1.later hB2).alloc (.cells #[.string (nm n2), .int .u64 0, .bool false] 24)
  have hT2 := Tri.new w2 (.string (nm n2)) (.int .u64 0) (.bool false) 24
  have hB2' : Below w.heap.size w (w2.alloc (.cells #[.string (nm n2), .int .u64 0, .bool false] 24)) := (hB1'.trans (hB2.mono hB1'.size)).alloc (Nat.le_trans hB1'.size hB2.size) _
  refine Calls.mono (script_calls c k hc hk _) ?_
  rintro e w3 ⟨rfl, hS, hB3⟩
  have hB3' := hB2'.trans (hB3.mono hB2'.size)
  have hz3 := hB3.size
  have hz2 := hB2'.size
  rw [show (w2.alloc (.cells #[.string (nm n2), .int .u64 0, .bool false] 24)).heap.size = w2.heap.size + 1 from by simp] at hS hz3 hz2
  obtain ⟨-, p0, p1, p2⟩ := hT1'.later hB3
  obtain ⟨-, q0, q1, q2⟩ := hT2.later hB3
  go_wp2_with fail
  refine Calls.mono (Eq_diff F (w2.heap.size + 1) _ k (lines k) _ _ _ _ _ _ w3 (by rw [hB3'.tape]; exact hF) (by omega) hz3 hS (.inl ⟨rfl, rfl⟩)) ?_
  rintro e w4 ⟨⟨t, rfl⟩, ⟨y, hS4⟩, hB4⟩
  have hlt := hS4.lt
  have hB4' := hB3'.trans (hB4.mono hz2)
  obtain ⟨g, cap, hg, s0, s1, hcell⟩ := hS4.rows (by omega)
  have HL : Hid (∀ j, j < k → w4.cell? ⟨g, j, none⟩ = some (.string lineText)) := fun j hj => (hcell j (by omega)).trans (by rw [List.getElem?_append_left (by simp [lines]; exact hj)]; simp [lines, hj])
  have s2 : ∀ A : Obj, (w4.alloc A).cell? ⟨w2.heap.size + 1, 0, none⟩ = some (.slice none 0 0) := fun A => cell_later ((Below.refl _ w4).alloc (Nat.le_refl _) A) s0
  have s3 : ∀ A : Obj, (w4.alloc A).cell? ⟨w2.heap.size + 1, 1, none⟩ = some (.slice (some ⟨g, 0, none⟩) (k + 1) cap) := fun A => cell_later ((Below.refl _ w4).alloc (Nat.le_refl _) A) s1
  clear hB1 hT1 hB1' hB2 hT1' hT2 hB2' hB3 hB3' hB4 p0 p1 p2 q0 q1 q2 hcell hS hS4 hz2 hz3
  go_wp2_with fail
  go_loopw [22] (fun i wr => ∃ j : Nat, j ≤ k ∧ i = .int .i64 j ∧ Below w4.heap.size w4 wr) (fun i _ => k - (intOf i).toNat)
  case atStart => exact ⟨0, Nat.zero_le _, rfl, (Below.refl _ w4).alloc (Nat.le_refl _) _⟩
  case round =>
    obtain ⟨j, hj, rfl, hbl⟩ := hrel
    clear s2 s3
    by_cases hjl : j < k
    · have c1 := (hbl.cell (p := ⟨w2.heap.size + 1, 1, none⟩) hlt).trans s1
      have c2 := (hbl.cell (p := ⟨g, j, none⟩) hg).trans (HL.out j hjl)
      simp only [lineText] at c2
      clear s0 s1
      go_wp2_with fail
      go_roundw
      case rel => exact ⟨j + 1, by omega, by go_num, hbl⟩
      case measure => simp [intOf]; omega
    · go_wp2_with fail
      go_ret
      exact ⟨rfl, hB4'.trans (hbl.mono hB4'.size)⟩


set_option maxRecDepth 10000 in
set_option maxHeartbeats 1600000 in
theorem law_ft (F : Interp) (v1 n1 v2 n2 : Int) (c k : Nat) (w : World) (hF : F.answers w.tape) (a0 : 0 ≤ n1) (a1 : n1 < 256) (b0 : 0 ≤ n2) (b1 : n2 < 256) (hc : c < 256) (hk : (c : Int) % 8 = (k : Int)) :
    Calls Ybaf.prog 3 #[.bool false, .int .u64 v1, .int .u8 n1, .bool true, .int .u64 v2, .int .u8 n2, .int .u8 c] w fun e w' => e = .returned (.bool true) ∧ Below w.heap.size w w' := by
  have hk8 : k < 8 := by omega
  go_enter Ybaf.func3, Ybaf.ntmps3
  go_wp2_with fail
  refine Calls.mono (word_calls false v1 n1 a0 a1 w) ?_
  rintro e w1 ⟨rfl, hB1⟩
  simp only [word, Bool.false_eq_true, if_false]
  go_wp2_with fail
  have hT1 := Tri.new w1 (.string (nm n1)) (.int .u64 0) (.bool false) 24
  have hB1' := hB1.alloc hB1.size (.cells #[.string (nm n1), .int .u64 0, .bool false] 24)
  refine Calls.mono (word_calls true v2 n2 b0 b1 _) ?_
  rintro e w2 ⟨rfl, hB2⟩
  simp only [word, if_true]
  go_wp2_with fail
  have hT1' := (hT1.later hB2).alloc (.cells #[.string ⟨#[]⟩, .int .u64 v2, .bool true] 24)
  have hT2 := Tri.new w2 (.string ⟨#[]⟩) (.int .u64 v2) (.bool true) 24
  have hB2' : Below w.heap.size w (w2.alloc (.cells #[.string ⟨#[]⟩, .int .u64 v2, .bool true] 24)) := (hB1'.trans (hB2.mono hB1'.size)).alloc (Nat.le_trans hB1'.size hB2.size) _
  refine Calls.mono (script_calls c k hc hk _) ?_
  rintro e w3 ⟨rfl, hS, hB3⟩
  have hB3' := hB2'.trans (hB3.mono hB2'.size)
  have hz3 := hB3.size
  have hz2 := hB2'.size
  rw [show (w2.alloc (.cells #[.string ⟨#[]⟩, .int .u64 v2, .bool true] 24)).heap.size = w2.heap.size + 1 from by simp] at hS hz3 hz2
  obtain ⟨-, p0, p1, p2⟩ := hT1'.later hB3
  obtain ⟨-, q0, q1, q2⟩ := hT2.later hB3
  go_wp2_with fail
  refine Calls.mono (Eq_diff F (w2.heap.size + 1) _ k (lines k) _ _ _ _ _ _ w3 (by rw [hB3'.tape]; exact hF) (by omega) hz3 hS (.inr (.inl ⟨rfl, rfl⟩))) ?_
  rintro e w4 ⟨⟨t, rfl⟩, ⟨y, hS4⟩, hB4⟩
  have hlt := hS4.lt
  have hB4' := hB3'.trans (hB4.mono hz2)
  obtain ⟨g, cap, hg, s0, s1, hcell⟩ := hS4.rows (by omega)
  have HL : Hid (∀ j, j < k → w4.cell? ⟨g, j, none⟩ = some (.string lineText)) := fun j hj => (hcell j (by omega)).trans (by rw [List.getElem?_append_left (by simp [lines]; exact hj)]; simp [lines, hj])
  have s2 : ∀ A : Obj, (w4.alloc A).cell? ⟨w2.heap.size + 1, 0, none⟩ = some (.slice none 0 0) := fun A => cell_later ((Below.refl _ w4).alloc (Nat.le_refl _) A) s0
  have s3 : ∀ A : Obj, (w4.alloc A).cell? ⟨w2.heap.size + 1, 1, none⟩ = some (.slice (some ⟨g, 0, none⟩) (k + 1) cap) := fun A => cell_later ((Below.refl _ w4).alloc (Nat.le_refl _) A) s1
  clear hB1 hT1 hB1' hB2 hT1' hT2 hB2' hB3 hB3' hB4 p0 p1 p2 q0 q1 q2 hcell hS hS4 hz2 hz3
  go_wp2_with fail
  go_loopw [22] (fun i wr => ∃ j : Nat, j ≤ k ∧ i = .int .i64 j ∧ Below w4.heap.size w4 wr) (fun i _ => k - (intOf i).toNat)
  case atStart => exact ⟨0, Nat.zero_le _, rfl, (Below.refl _ w4).alloc (Nat.le_refl _) _⟩
  case round =>
    obtain ⟨j, hj, rfl, hbl⟩ := hrel
    clear s2 s3
    by_cases hjl : j < k
    · have c1 := (hbl.cell (p := ⟨w2.heap.size + 1, 1, none⟩) hlt).trans s1
      have c2 := (hbl.cell (p := ⟨g, j, none⟩) hg).trans (HL.out j hjl)
      simp only [lineText] at c2
      clear s0 s1
      go_wp2_with fail
      go_roundw
      case rel => exact ⟨j + 1, by omega, by go_num, hbl⟩
      case measure => simp [intOf]; omega
    · go_wp2_with fail
      go_ret
      exact ⟨rfl, hB4'.trans (hbl.mono hB4'.size)⟩


set_option maxRecDepth 10000 in
set_option maxHeartbeats 1600000 in
theorem law_ff (F : Interp) (v1 n1 v2 n2 : Int) (c k : Nat) (w : World) (hF : F.answers w.tape) (a0 : 0 ≤ n1) (a1 : n1 < 256) (b0 : 0 ≤ n2) (b1 : n2 < 256) (hc : c < 256) (hk : (c : Int) % 8 = (k : Int)) (hm : n1 % 3 ≠ n2 % 3) :
    Calls Ybaf.prog 3 #[.bool false, .int .u64 v1, .int .u8 n1, .bool false, .int .u64 v2, .int .u8 n2, .int .u8 c] w fun e w' => e = .returned (.bool true) ∧ Below w.heap.size w w' := by
  have hk8 : k < 8 := by omega
  go_enter Ybaf.func3, Ybaf.ntmps3
  go_wp2_with fail
  refine Calls.mono (word_calls false v1 n1 a0 a1 w) ?_
  rintro e w1 ⟨rfl, hB1⟩
  simp only [word, Bool.false_eq_true, if_false]
  go_wp2_with fail
  have hT1 := Tri.new w1 (.string (nm n1)) (.int .u64 0) (.bool false) 24
  have hB1' := hB1.alloc hB1.size (.cells #[.string (nm n1), .int .u64 0, .bool false] 24)
  refine Calls.mono (word_calls false v2 n2 b0 b1 _) ?_
  rintro e w2 ⟨rfl, hB2⟩
  simp only [word, Bool.false_eq_true, if_false]
  go_wp2_with fail
  have hT1' := (hT1.later hB2).alloc (.cells #[.string (nm n2), .int .u64 0, .bool false] 24)
  have hT2 := Tri.new w2 (.string (nm n2)) (.int .u64 0) (.bool false) 24
  have hB2' : Below w.heap.size w (w2.alloc (.cells #[.string (nm n2), .int .u64 0, .bool false] 24)) := (hB1'.trans (hB2.mono hB1'.size)).alloc (Nat.le_trans hB1'.size hB2.size) _
  refine Calls.mono (script_calls c k hc hk _) ?_
  rintro e w3 ⟨rfl, hS, hB3⟩
  have hB3' := hB2'.trans (hB3.mono hB2'.size)
  have hz3 := hB3.size
  have hz2 := hB2'.size
  rw [show (w2.alloc (.cells #[.string (nm n2), .int .u64 0, .bool false] 24)).heap.size = w2.heap.size + 1 from by simp] at hS hz3 hz2
  obtain ⟨-, p0, p1, p2⟩ := hT1'.later hB3
  obtain ⟨-, q0, q1, q2⟩ := hT2.later hB3
  go_wp2_with fail
  refine Calls.mono (Eq_diff F (w2.heap.size + 1) _ k (lines k) _ _ _ _ _ _ w3 (by rw [hB3'.tape]; exact hF) (by omega) hz3 hS (.inr (.inr ⟨rfl, rfl, nm_ne hm⟩))) ?_
  rintro e w4 ⟨⟨t, rfl⟩, ⟨y, hS4⟩, hB4⟩
  have hlt := hS4.lt
  have hB4' := hB3'.trans (hB4.mono hz2)
  obtain ⟨g, cap, hg, s0, s1, hcell⟩ := hS4.rows (by omega)
  have HL : Hid (∀ j, j < k → w4.cell? ⟨g, j, none⟩ = some (.string lineText)) := fun j hj => (hcell j (by omega)).trans (by rw [List.getElem?_append_left (by simp [lines]; exact hj)]; simp [lines, hj])
  have s2 : ∀ A : Obj, (w4.alloc A).cell? ⟨w2.heap.size + 1, 0, none⟩ = some (.slice none 0 0) := fun A => cell_later ((Below.refl _ w4).alloc (Nat.le_refl _) A) s0
  have s3 : ∀ A : Obj, (w4.alloc A).cell? ⟨w2.heap.size + 1, 1, none⟩ = some (.slice (some ⟨g, 0, none⟩) (k + 1) cap) := fun A => cell_later ((Below.refl _ w4).alloc (Nat.le_refl _) A) s1
  clear hB1 hT1 hB1' hB2 hT1' hT2 hB2' hB3 hB3' hB4 p0 p1 p2 q0 q1 q2 hcell hS hS4 hz2 hz3
  go_wp2_with fail
  go_loopw [22] (fun i wr => ∃ j : Nat, j ≤ k ∧ i = .int .i64 j ∧ Below w4.heap.size w4 wr) (fun i _ => k - (intOf i).toNat)
  case atStart => exact ⟨0, Nat.zero_le _, rfl, (Below.refl _ w4).alloc (Nat.le_refl _) _⟩
  case round =>
    obtain ⟨j, hj, rfl, hbl⟩ := hrel
    clear s2 s3
    by_cases hjl : j < k
    · have c1 := (hbl.cell (p := ⟨w2.heap.size + 1, 1, none⟩) hlt).trans s1
      have c2 := (hbl.cell (p := ⟨g, j, none⟩) hg).trans (HL.out j hjl)
      simp only [lineText] at c2
      clear s0 s1
      go_wp2_with fail
      go_roundw
      case rel => exact ⟨j + 1, by omega, by go_num, hbl⟩
      case measure => simp [intOf]; omega
    · go_wp2_with fail
      go_ret
      exact ⟨rfl, hB4'.trans (hbl.mono hB4'.size)⟩


/-- The law, whatever the words and the script. -/
theorem law_all (F : Interp) (f1 f2 : Bool) (v1 n1 v2 n2 c : Int) (w : World) (hF : F.answers w.tape) (a0 : 0 ≤ n1) (a1 : n1 < 256) (b0 : 0 ≤ n2) (b1 : n2 < 256) (c0 : 0 ≤ c) (c1 : c < 256) :
    Calls Ybaf.prog 3 #[.bool f1, .int .u64 v1, .int .u8 n1, .bool f2, .int .u64 v2, .int .u8 n2, .int .u8 c] w fun e w' => e = .returned (.bool true) ∧ Below w.heap.size w w' := by
  obtain ⟨c, rfl⟩ := Int.eq_ofNat_of_zero_le c0
  have hk : (c : Int) % 8 = ((c % 8 : Nat) : Int) := by omega
  cases f1 <;> cases f2
  · by_cases hm : n1 % 3 = n2 % 3
    · exact law_same v1 n1 v2 n2 c _ w a0 a1 b0 b1 (by omega) hk hm
    · exact law_ff F v1 n1 v2 n2 c _ w hF a0 a1 b0 b1 (by omega) hk hm
  · exact law_ft F v1 n1 v2 n2 c _ w hF a0 a1 b0 b1 (by omega) hk
  · exact law_tf F v1 n1 v2 n2 c _ w hF a0 a1 b0 b1 (by omega) hk
  · exact law_both v1 n1 v2 n2 c _ w a0 a1 b0 b1 (by omega) hk

end Go.Proofs.YbulkurwFmt
