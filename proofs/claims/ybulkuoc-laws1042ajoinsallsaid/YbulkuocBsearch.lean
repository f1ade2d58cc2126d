/- slices.BinarySearchFunc over places. -/
import Derived.Test.YbulkuocInsert
namespace Go.Proofs.Ybulkuoc
open Go.RowKit

set_option maxRecDepth 20000 in
set_option maxHeartbeats 3200000 in
theorem cmpId_calls (C box g M cI a : Nat) (x y : Int) (w : World) (hbx : w.cell? ⟨box, 0, none⟩ = some (.pointer (some ⟨C, 0, none⟩))) (c6 : w.cell? ⟨C, 6, none⟩ = some (.slice (some ⟨g, 0, none⟩) M cI)) (ha : a < M) (ca : w.cell? ⟨g, a, none⟩ = some (.int .i64 x)) :
    Calls Yba.prog 47 #[.int .i64 (a : Nat), .int .i64 y, .pointer (some ⟨box, 0, none⟩)] w fun e w' => e = .returned (.int .i64 (cmpv x y)) ∧ ∃ n, w' = w.drewN n := by
  have ha' : (a : Int) < (M : Int) := by omega
  go_enter Yba.func47, Yba.ntmps47
  go_wp2_with (first | (go_at_call 41; refine Calls.mono (compare_calls _ _ _) ?_; rintro e w1 ⟨rfl, rfl⟩) | fail)
  go_ret
  exact ⟨rfl, 0, rfl⟩

/-- What the search answers: a place in bounds; found only where the id is. -/
def BsPost (l I : List Nat) (id : Int) (w : World) (e : Ending) (w' : World) : Prop := ∃ (i : Nat) (f : Bool), e = .returned (.tuple #[.int .i64 (i : Nat), .bool f]) ∧ i ≤ l.length ∧ (f = true → ∃ y u, l[i]? = some y ∧ I[y]? = some u ∧ (u : Int) = id) ∧ ∃ m, w' = w.drewN m

set_option maxRecDepth 20000 in
set_option maxHeartbeats 3200000 in
theorem bsearch_calls (c : Tc) (K : Nat → Option Ent) (v : Tv) (w : World) (h : St c K v w) (box k gI M cI : Nat) (id : Int) (x : Value) (l I : List Nat) (hbx : w.cell? ⟨box, 0, none⟩ = some (.pointer (some ⟨c.C, 0, none⟩))) (hk : K k = some ⟨3, 1, l.length, x, ints l⟩) (hn : l.length ≤ 10000) (hids : v.ids = .slice (some ⟨gI, 0, none⟩) M cI) (h1 : K 1 = some ⟨3, 1, M, v.ids, ints I⟩) (hI : I.length = M) (hlt : ∀ y ∈ l, y < M) :
    Calls Yba.prog 46 #[x, .int .i64 id, .func (.func 47) #[] #[.pointer (some ⟨box, 0, none⟩)]] w fun e w' => BsPost l I id w e w' := by
  obtain ⟨ra, rc, rfl, hra⟩ := h.sep.shape hk
  have HLT : Hid (∀ y ∈ l, y < M) := hlt
  clear hlt
  go_enter Yba.func46, Yba.ntmps46
  go_wp2_with fail
  go_loopw [9, 10] (fun iv jv wr => (∃ i j : Nat, i ≤ j ∧ j ≤ l.length ∧ iv = .int .i64 i ∧ jv = .int .i64 j) ∧ ∃ m, wr = w.drewN m) (fun iv jv _ => (intOf jv).toNat - (intOf iv).toNat)
  case atStart => exact ⟨⟨0, l.length, Nat.zero_le _, Nat.le_refl _, rfl, rfl⟩, 0, rfl⟩
  case round =>
    obtain ⟨⟨i, j, hij, hjl, rfl, rfl⟩, m, hm⟩ := hrel
    have hstr : St c K v wr := by rw [hm]; exact h.drewN m
    have hbr : wr.cell? ⟨box, 0, none⟩ = some (.pointer (some ⟨c.C, 0, none⟩)) := by rw [hm]; exact hbx
    have e1 : K 1 = some ⟨3, 1, M, .slice (some ⟨gI, 0, none⟩) M cI, ints I⟩ := by rw [← hids]; exact h1
    have c6 : wr.cell? ⟨c.C, 6, none⟩ = some (.slice (some ⟨gI, 0, none⟩) M cI) := by rw [← hids]; exact hstr.hC.cell? 6
    have HM : Hid (wr = w.drewN m) := hm
    clear hm
    by_cases hl : i < j
    · have hl' : (i : Int) < (j : Int) := by omega
      obtain ⟨g, rfl⟩ := hra (by omega)
      obtain ⟨y, hy⟩ : ∃ y, l[(i + j) / 2]? = some y := ⟨_, List.getElem?_eq_getElem (by omega)⟩
      have hyM := HLT.out y (List.mem_of_getElem? hy)
      obtain ⟨u, hu⟩ : ∃ u, I[y]? = some u := ⟨_, List.getElem?_eq_getElem (by omega)⟩
      have cy := hstr.sep.cell hk (ints_at hy)
      have cu := hstr.sep.cell e1 (ints_at hu)
      go_wp2_with fail
      refine Calls.mono (cmpId_calls c.C box gI M cI y u id wr hbr c6 hyM cu) ?_
      rintro e w1 ⟨rfl, n1, rfl⟩
      go_wp2_with fail
      · refine ⟨⟨⟨(i + j) / 2 + 1, j, by omega, hjl, by go_num, rfl⟩, m + n1, by rw [HM.out]; simp [World.drewN, Nat.add_assoc]⟩, by simp [intOf]; omega⟩
      · refine ⟨⟨⟨i, (i + j) / 2, by omega, by omega, rfl, by go_num⟩, m + n1, by rw [HM.out]; simp [World.drewN, Nat.add_assoc]⟩, by simp [intOf]; omega⟩
    · have hl' : ¬ ((i : Int) < (j : Int)) := by omega
      by_cases hil : i < l.length
      · have hil' : (i : Int) < (l.length : Int) := by omega
        obtain ⟨g, rfl⟩ := hra (by omega)
        obtain ⟨y, hy⟩ : ∃ y, l[i]? = some y := ⟨_, List.getElem?_eq_getElem (by omega)⟩
        have hyM := HLT.out y (List.mem_of_getElem? hy)
        obtain ⟨u, hu⟩ : ∃ u, I[y]? = some u := ⟨_, List.getElem?_eq_getElem (by omega)⟩
        have cy := hstr.sep.cell hk (ints_at hy)
        have cu := hstr.sep.cell e1 (ints_at hu)
        go_wp2_with fail
        refine Calls.mono (cmpId_calls c.C box gI M cI y u id wr hbr c6 hyM cu) ?_
        rintro e w1 ⟨rfl, n1, rfl⟩
        go_wp2_with fail
        refine bodyPost_ret (v := .tuple #[.int .i64 (i : Int), .bool (cmpv (u : Int) id == 0)]) (by simp [results, Yba.results46, go_sem]) rfl ?_
        exact ⟨i, _, rfl, by omega, fun h => ⟨y, u, hy, hu, cmpv_zero (by simpa using h)⟩, m + n1, by rw [HM.out]; simp [World.drewN, Nat.add_assoc]⟩
      · have hil' : ¬ ((i : Int) < (l.length : Int)) := by omega
        go_wp2_with fail
        refine bodyPost_ret (v := .tuple #[.int .i64 (i : Int), .bool false]) (by simp [results, Yba.results46, go_sem]) rfl ?_
        exact ⟨i, false, rfl, by omega, fun h => (by cases h), m, HM.out⟩
end Go.Proofs.Ybulkuoc
