/- The rows of a through while nodes come in. -/
import Derived.Test.YbulkuocChains
namespace Go.Proofs.Ybulkuoc
open Go.RowKit

theorem info4 : (Yba.prog.info? 4).map (fun i => (i.zero, i.size, i.bytes)) = some (some (.bool false), 1, 1) := by kernel_rfl
theorem info125 : (Yba.prog.info? 125).map (fun i => (i.zero, i.size, i.bytes)) = some (some (.pointer none), 1, 8) := by kernel_rfl

/-- No two operations of one chain. -/
def uniqB (L : List (Option Nat)) : Bool := (List.range L.length).all fun i => (List.range L.length).all fun j => i == j || L.getD i none == none || L.getD i none != L.getD j none
theorem uniqL {L : List (Option Nat)} (h : uniqB L = true) {i i' j : Nat} (h1 : L.getD i none = some j) (h2 : L.getD i' none = some j) : i = i' := by
  have l1 : i < L.length := by
    rcases Nat.lt_or_ge i L.length with h | h
    · exact h
    · rw [List.getD_eq_getElem?_getD, List.getElem?_eq_none h] at h1; cases h1
  have l2 : i' < L.length := by
    rcases Nat.lt_or_ge i' L.length with h | h
    · exact h
    · rw [List.getD_eq_getElem?_getD, List.getElem?_eq_none h] at h2; cases h2
  have := List.all_eq_true.1 (List.all_eq_true.1 h i (List.mem_range.2 l1)) i' (List.mem_range.2 l2)
  rw [h1, h2] at this
  simpa using this
def allB (L : List (Option Nat)) (p : Nat → Bool) : Bool := L.all fun x => match x with | some s => p s | none => true
theorem allL {L : List (Option Nat)} {p : Nat → Bool} (h : allB L p = true) {i s : Nat} (h1 : L.getD i none = some s) : p s = true := by
  have : some s ∈ L := by
    rw [List.getD_eq_getElem?_getD] at h1
    cases h2 : L[i]? with
    | none => rw [h2] at h1; cases h1
    | some x => rw [h2] at h1; simp at h1; subst h1; exact List.mem_of_getElem? h2
  exact List.all_eq_true.1 h _ this
theorem getD_only {L : List (Option Nat)} {q j k : Nat} (h : L.getD q none = some j) (hu : uniqB L = true) (hk : L.getD k none = some j) : q = k := uniqL hu h hk

theorem exec_nil {w : World} {ρ : Operand → Value} {o : Oper} {x : Operand} {ad : Addr} (ho : o.op = .nilCheck x) (hx : ρ x = .pointer (some ad)) : (execOp ρ o).run Yba.prog w = .ok (.value (.pointer (some ad))) w := by
  simp [execOp, ho, hx, go_sem]

theorem list_cons {α : Type} {xs : List α} {n : Nat} (h : xs.length = n + 1) : ∃ x ys, xs = x :: ys ∧ ys.length = n := by
  cases xs with
  | nil => simp at h
  | cons x ys => exact ⟨x, ys, rfl, by simpa using h⟩
theorem Fr.form {a0 a : Act} {lo hi : Nat} (h : Fr a0 lo hi a) (hh : hi < a0.tmps.size) (hlo : lo ≤ hi) : ∃ xs : List Value, xs.length = hi + 1 - lo ∧ a = ⟨(a0.tmps.toList.take lo ++ (xs ++ a0.tmps.toList.drop (hi + 1))).toArray, a0.defers⟩ := by
  obtain ⟨h1, h2, h3⟩ := h
  refine ⟨(a.tmps.toList.drop lo).take (hi + 1 - lo), by simp; omega, ?_⟩
  have e1 : a.tmps.toList.take lo = a0.tmps.toList.take lo := by
    apply List.ext_getElem?
    intro i
    rw [List.getElem?_take, List.getElem?_take]
    split
    · simpa using h3 i (.inl (by omega))
    · rfl
  have e2 : a.tmps.toList.drop (hi + 1) = a0.tmps.toList.drop (hi + 1) := by
    apply List.ext_getElem?
    intro i
    rw [List.getElem?_drop, List.getElem?_drop]
    simpa using h3 (hi + 1 + i) (.inr (by omega))
  have e3 : a.tmps.toList = a0.tmps.toList.take lo ++ ((a.tmps.toList.drop lo).take (hi + 1 - lo) ++ a0.tmps.toList.drop (hi + 1)) := by
    rw [← e1, ← e2]
    have : a.tmps.toList.drop (hi + 1) = (a.tmps.toList.drop lo).drop (hi + 1 - lo) := by rw [List.drop_drop]; congr 1; omega
    rw [this, List.take_append_drop, List.take_append_drop]
  rw [← e3]
  cases a with
  | mk t d =>
    have h2' : d = a0.defers := h2
    rw [h2']

/-- Where a node has its place, plus one. -/
def plJ (J : List Nat) (u : Nat) : Nat := if u = 0 then 1 else if u ∈ J then J.idxOf u + 3 else 0
def u64s (l : List Nat) : List Value := l.map fun (n : Nat) => Value.int .u64 (n : Int)
def pairs (l : List (Nat × Nat)) : List Value := l.flatMap fun p => [Value.int .i64 (p.1 : Int), .int .i64 (p.2 : Int)]

/-- The rows: J the nodes that came in, O and I the edges by place, L the lengths. -/
structure Rw (c : Tc) (K : Nat → Option Ent) (v : Tv) (D : Nat → Option Ent) (J : List Nat) (O I : Nat → List Nat) (L : Nat → Int) (B m : Nat) : Prop where
  r0 : K 0 = some ⟨21, 1, c.N, c.pl, plRow (plJ J) c.N⟩
  r1 : K 1 = some ⟨3, 1, J.length + 2, v.ids, ints (0 :: c.N :: J)⟩
  r2 : Mat K 2 300 (J.length + 2) v.out O
  r3 : Mat K 3 400 (J.length + 2) v.inn I
  r4 : K 4 = some ⟨4, 1, J.length + 2, v.gone, List.replicate (J.length + 2) (.bool false)⟩
  r5 : K 5 = some ⟨4, 1, J.length + 2, v.reached, .bool false :: List.replicate (J.length + 1) (.bool true)⟩
  r6 : ∃ f : Nat → Int, K 6 = some ⟨3, 1, J.length + 2, v.frm, rowOf f (J.length + 2)⟩ ∧ ∀ p, 0 ≤ f p ∧ f p ≤ (B : Int)
  r7 : K 7 = some ⟨3, 1, J.length + 2, v.len, rowOf L (J.length + 2)⟩
  r8 : ∃ f : Nat → Int, K 8 = some ⟨3, 1, J.length + 2, v.nxt, rowOf f (J.length + 2)⟩ ∧ ∀ p, -1 ≤ f p ∧ f p ≤ (B : Int)
  r9 : ∃ xs, K 9 = some ⟨3, 1, J.length + 1, v.met, xs⟩
  r10 : K 10 = some ⟨125, 1, J.length + 2, v.home, List.replicate (J.length + 2) (.pointer none)⟩
  r11 : ∃ xs, K 11 = some ⟨21, 1, J.length + 2, v.at', xs⟩
  r12 : K 12 = some ⟨3, 1, J.length, v.fresh, ints (List.range' 2 J.length)⟩
  r13 : K 13 = some ⟨3, 1, m, v.marks, rowOf (fun p => if p < 2 then 0 else 1) m⟩ ∧ (v.mark = if m = 0 then 0 else 1) ∧ (m = 0 → v.marks = .slice none 0 0)
  r14 : ∃ q : List Nat, K 14 = some ⟨22, 1, q.length, v.parked, u64s q⟩ ∧ q.length ≤ B
  r18 : ∃ g : List (Nat × Nat), K 18 = some ⟨120, 2, g.length, v.gained, pairs g⟩ ∧ g.length ≤ B ∧ ∀ x ∈ g, 2 ≤ x.1 ∧ x.1 < J.length + 2 ∧ x.2 < J.length + 2
  rD : ∀ k, 19 ≤ k → k < 300 → K k = D k
  bO : ∀ p, (O p).length ≤ B
  bI : ∀ p, (I p).length ≤ B
  lJ : J.length ≤ 7
  st : v.st = 2

theorem Rw.keep {c : Tc} {K K' : Nat → Option Ent} {v : Tv} {D : Nat → Option Ent} {J : List Nat} {O I : Nat → List Nat} {L : Nat → Int} {B m : Nat} (h : Rw c K v D J O I L B m) (hk : ∀ k, k < 1000 → K' k = K k) : Rw c K' v D J O I L B m := by
  have hl := h.lJ
  exact { r0 := by rw [hk 0 (by omega)]; exact h.r0
          r1 := by rw [hk 1 (by omega)]; exact h.r1
          r2 := h.r2.keep (hk 2 (by omega)) (fun u hu => hk _ (by omega))
          r3 := h.r3.keep (hk 3 (by omega)) (fun u hu => hk _ (by omega))
          r4 := by rw [hk 4 (by omega)]; exact h.r4
          r5 := by rw [hk 5 (by omega)]; exact h.r5
          r6 := by rw [hk 6 (by omega)]; exact h.r6
          r7 := by rw [hk 7 (by omega)]; exact h.r7
          r8 := by rw [hk 8 (by omega)]; exact h.r8
          r9 := by rw [hk 9 (by omega)]; exact h.r9
          r10 := by rw [hk 10 (by omega)]; exact h.r10
          r11 := by rw [hk 11 (by omega)]; exact h.r11
          r12 := by rw [hk 12 (by omega)]; exact h.r12
          r13 := by rw [hk 13 (by omega)]; exact h.r13
          r14 := by rw [hk 14 (by omega)]; exact h.r14
          r18 := by rw [hk 18 (by omega)]; exact h.r18
          rD := fun k h1 h2 => (hk k (by omega)).trans (h.rD k h1 h2)
          bO := h.bO, bI := h.bI, lJ := h.lJ, st := h.st }

theorem plJ_snoc {J : List Nat} {u : Nat} (hu : u ∉ J) (hu0 : u ≠ 0) (y : Nat) : plJ (J ++ [u]) y = if y = u then J.length + 3 else plJ J y := by
  unfold plJ
  by_cases h0 : y = 0
  · subst h0; simp [Ne.symm hu0]
  · by_cases hy : y = u
    · subst hy
      simp [h0, List.idxOf_append, hu]
    · by_cases hm : y ∈ J
      · simp [h0, hy, hm, List.idxOf_append]
      · simp [h0, hy, hm]
theorem plJ_le (J : List Nat) (u : Nat) : plJ J u ≤ J.length + 2 := by
  unfold plJ
  split
  · omega
  · split
    · rename_i h
      have := List.idxOf_lt_length_of_mem h
      omega
    · omega
theorem plRow_set {pl : Nat → Nat} {N u : Nat} (x : Nat) : (plRow pl N).set u (.int .i32 (x : Int)) = plRow (fun y => if y = u then x else pl y) N := by
  apply List.ext_getElem?
  intro i
  rw [List.getElem?_set]
  simp only [plRow, List.length_map, List.length_range, List.getElem?_map]
  by_cases e : u = i
  · subst e
    by_cases h : u < N <;> simp [h]
  · by_cases h : i < N
    · simp [e, h, Ne.symm e]
    · simp [e, h]
end Go.Proofs.Ybulkuoc
