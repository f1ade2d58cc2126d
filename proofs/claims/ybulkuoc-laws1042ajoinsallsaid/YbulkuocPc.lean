/- The first lengths: the plain rounds. -/
import Derived.Test.YbulkuocDj
namespace Go.Proofs.Ybulkuoc

structure Pc (M : Nat) (O I : Nat → List Nat) (L : Nat → Int) (rk : Nat → Nat) (Q : List Nat) (i : Nat) : Prop where
  l0 : L 0 = -1
  l1 : L 1 = 0
  z : ∀ p, i + 2 ≤ p → L p = -1
  bd : ∀ p, -1 ≤ L p ∧ L p ≤ (rk p : Int)
  a : ∀ p, 2 ≤ p → p < M → 0 ≤ L p → ∃ q ∈ O p, 0 ≤ L q ∧ L q + 1 ≤ L p
  b1 : ∀ u ∈ I 1, u < i + 2 → 0 ≤ L u ∧ L u ≤ 1
  bq : ∀ q, 2 ≤ q → q < M → 0 ≤ L q → ∃ l : Nat, L q = (l : Int) ∧ kq l q ∈ Q
  k : ∀ x ∈ Q, ∃ l p, x = kq l p ∧ l < 10 ∧ 2 ≤ p ∧ p < M
  len : Q.length ≤ i

variable {M : Nat} {O I : Nat → List Nat} {L : Nat → Int} {rk : Nat → Nat} {Q Q' : List Nat} {i : Nat}

theorem Pc.perm (h : Pc M O I L rk Q i) (hp : Q'.Perm Q) : Pc M O I L rk Q' i :=
  ⟨h.l0, h.l1, h.z, h.bd, h.a, h.b1, fun q h1 h2 h3 => by obtain ⟨l, e1, e2⟩ := h.bq q h1 h2 h3; exact ⟨l, e1, hp.mem_iff.2 e2⟩, fun x hx => h.k x (hp.mem_iff.1 hx), by rw [hp.length_eq]; exact h.len⟩
theorem Pc.start (hG : Geo M O I rk) : Pc M O I (fun p => if p = 1 then 0 else -1) rk [] 0 := by
  refine ⟨rfl, rfl, fun p hp => by rw [if_neg (by omega)], fun p => ?_, fun p h1 _ h3 => ?_, fun u hu h => ?_, fun q h1 _ h3 => ?_, by simp, by simp⟩
  · show -1 ≤ (if p = 1 then (0 : Int) else -1) ∧ (if p = 1 then (0 : Int) else -1) ≤ (rk p : Int)
    split
    · omega
    · omega
  · rw [if_neg (by omega)] at h3; omega
  · have := (hG.e u 1 ((hG.sym u 1).1 hu)).2.2.1; omega
  · rw [if_neg (by omega)] at h3; omega
theorem Pc.done (hG : Geo M O I rk) (h : Pc M O I L rk Q i) (hi : i + 2 = M) : Dj M O I L rk Q (fun _ => False) :=
  ⟨h.l0, h.l1, h.bd, h.a, fun u hu => h.b1 u hu (by have := (hG.e u 1 ((hG.sym u 1).1 hu)).2.2.2.1; omega), fun q h1 h2 h3 _ => .inl (h.bq q h1 h2 h3), h.k⟩
theorem Pc.step (hG : Geo M O I rk) (h : Pc M O I L rk Q i) (hp : i + 2 < M) {r : Int} (hb : Best L (O (i + 2)) r) :
    -1 ≤ r ∧ r ≤ 8 ∧ (∀ l : Nat, r = (l : Int) → Pc M O I (fun y => if y = i + 2 then r else L y) rk (Q ++ [kq l (i + 2)]) (i + 1)) ∧ (r < 0 → Pc M O I (fun y => if y = i + 2 then r else L y) rk Q (i + 1)) := by
  have hzp : L (i + 2) = -1 := h.z _ (Nat.le_refl _)
  have hrb : -1 ≤ r ∧ r ≤ (rk (i + 2) : Int) ∧ r ≤ 8 := by
    rcases hb with ⟨h1, _⟩ | ⟨q, hq, h1, h2, _⟩
    · omega
    · have h3 := (hG.e _ _ hq).2.2.2.2
      have h4 := h.bd q
      have h5 := hG.r7 (i + 2)
      omega
  have common : ∀ Q2 : List Nat, (∀ x ∈ Q, x ∈ Q2) → (∀ x ∈ Q2, ∃ l p, x = kq l p ∧ l < 10 ∧ 2 ≤ p ∧ p < M) → Q2.length ≤ i + 1 → (0 ≤ r → ∃ l : Nat, r = (l : Int) ∧ kq l (i + 2) ∈ Q2) → Pc M O I (fun y => if y = i + 2 then r else L y) rk Q2 (i + 1) := by
    intro Q2 hsub hk hl hr
    refine ⟨?_, ?_, ?_, ?_, ?_, ?_, ?_, hk, hl⟩
    · show (if 0 = i + 2 then r else L 0) = -1
      rw [if_neg (by omega)]; exact h.l0
    · show (if 1 = i + 2 then r else L 1) = 0
      rw [if_neg (by omega)]; exact h.l1
    · intro p hp2
      show (if p = i + 2 then r else L p) = -1
      rw [if_neg (by omega)]; exact h.z p (by omega)
    · intro p
      show -1 ≤ (if p = i + 2 then r else L p) ∧ (if p = i + 2 then r else L p) ≤ (rk p : Int)
      split
      · rename_i e; subst e; omega
      · exact h.bd p
    · intro p h1 h2 h3
      by_cases hpe : p = i + 2
      · subst hpe
        have h3' : 0 ≤ r := by have h3'' : 0 ≤ (if i + 2 = i + 2 then r else L (i + 2)) := h3; rw [if_pos rfl] at h3''; exact h3''
        rcases hb with ⟨h4, _⟩ | ⟨q, hq, q1, q2, _⟩
        · omega
        · have hqn : q ≠ i + 2 := by rintro rfl; omega
          refine ⟨q, hq, ?_, ?_⟩
          · show 0 ≤ (if q = i + 2 then r else L q)
            rw [if_neg hqn]; exact q1
          · show (if q = i + 2 then r else L q) + 1 ≤ (if i + 2 = i + 2 then r else L (i + 2))
            rw [if_neg hqn, if_pos rfl]; omega
      · have h3' : 0 ≤ L p := by have h3'' : 0 ≤ (if p = i + 2 then r else L p) := h3; rw [if_neg hpe] at h3''; exact h3''
        obtain ⟨q, hq, q1, q2⟩ := h.a p h1 h2 h3'
        have hqn : q ≠ i + 2 := by rintro rfl; omega
        refine ⟨q, hq, ?_, ?_⟩
        · show 0 ≤ (if q = i + 2 then r else L q)
          rw [if_neg hqn]; exact q1
        · show (if q = i + 2 then r else L q) + 1 ≤ (if p = i + 2 then r else L p)
          rw [if_neg hqn, if_neg hpe]; exact q2
    · intro u hu hlt
      show 0 ≤ (if u = i + 2 then r else L u) ∧ (if u = i + 2 then r else L u) ≤ 1
      by_cases hue : u = i + 2
      · subst hue
        rw [if_pos rfl]
        have h1O := (hG.sym _ _).1 hu
        rcases hb with ⟨_, h5⟩ | ⟨q, hq, q1, q2, q3⟩
        · have := h5 1 h1O; have := h.l1; omega
        · have := q3 1 h1O (by rw [h.l1]; omega)
          have := h.l1
          omega
      · rw [if_neg hue]
        exact h.b1 u hu (by omega)
    · intro q h1 h2 h3
      by_cases hqe : q = i + 2
      · subst hqe
        have h3' : 0 ≤ r := by have h3'' : 0 ≤ (if i + 2 = i + 2 then r else L (i + 2)) := h3; rw [if_pos rfl] at h3''; exact h3''
        obtain ⟨l, e1, e2⟩ := hr h3'
        exact ⟨l, by show (if i + 2 = i + 2 then r else L (i + 2)) = _; rw [if_pos rfl]; exact e1, e2⟩
      · have h3' : 0 ≤ L q := by have h3'' : 0 ≤ (if q = i + 2 then r else L q) := h3; rw [if_neg hqe] at h3''; exact h3''
        obtain ⟨l, e1, e2⟩ := h.bq q h1 h2 h3'
        exact ⟨l, by show (if q = i + 2 then r else L q) = _; rw [if_neg hqe]; exact e1, hsub _ e2⟩
  refine ⟨hrb.1, hrb.2.2, fun l hl => ?_, fun hr => ?_⟩
  · refine common _ (fun x hx => List.mem_append_left _ hx) (fun x hx => ?_) (by have := h.len; simp; omega) (fun _ => ⟨l, hl, by simp⟩)
    rcases List.mem_append.1 hx with hx | hx
    · exact h.k x hx
    · simp at hx
      subst hx
      exact ⟨l, i + 2, rfl, by omega, by omega, hp⟩
  · exact common Q (fun x hx => hx) h.k (by have := h.len; omega) (fun h0 => by omega)
theorem pots_le (L : Nat → Int) (M : Nat) (h : ∀ p, L p ≤ 8) : pots L M ≤ 9 * M := by
  unfold pots
  induction M with
  | zero => simp
  | succ M ih =>
    rw [List.range_succ]
    simp only [List.map_append, List.map_cons, List.map_nil, List.sum_append, List.sum_cons, List.sum_nil]
    have : pot (L M) ≤ 9 := by unfold pot; have := h M; split <;> omega
    omega
end Go.Proofs.Ybulkuoc
