/- Lengths by a heap whose order does not matter: the plain rounds. -/
import Derived.Test.YbulkuocPlainEnd
namespace Go.Proofs.Ybulkuoc

/-- A length and a place in one key. -/
def kq (l p : Nat) : Nat := l * 4294967296 + p
theorem kq_inj {l p l' p' : Nat} (hp : p < 4294967296) (hp' : p' < 4294967296) (h : kq l p = kq l' p') : l = l' ∧ p = p' := by unfold kq at h; omega

/-- What stays: the edges, a rank that falls along them. -/
structure Geo (M : Nat) (O I : Nat → List Nat) (rk : Nat → Nat) : Prop where
  m9 : M ≤ 9
  m2 : 2 ≤ M
  e : ∀ p q, q ∈ O p → 1 ≤ q ∧ q < M ∧ 2 ≤ p ∧ p < M ∧ rk q < rk p
  sym : ∀ p q, p ∈ I q ↔ q ∈ O p
  r7 : ∀ p, rk p ≤ 7

structure Dj (M : Nat) (O I : Nat → List Nat) (L : Nat → Int) (rk : Nat → Nat) (Q : List Nat) (ex : Nat → Prop) : Prop where
  l0 : L 0 = -1
  l1 : L 1 = 0
  bd : ∀ p, -1 ≤ L p ∧ L p ≤ (rk p : Int)
  a : ∀ p, 2 ≤ p → p < M → 0 ≤ L p → ∃ q ∈ O p, 0 ≤ L q ∧ L q + 1 ≤ L p
  b1 : ∀ u ∈ I 1, 0 ≤ L u ∧ L u ≤ 1
  b : ∀ q, 2 ≤ q → q < M → 0 ≤ L q → ¬ ex q → (∃ l : Nat, L q = (l : Int) ∧ kq l q ∈ Q) ∨ ∀ u ∈ I q, 0 ≤ L u ∧ L u ≤ L q + 1
  k : ∀ x ∈ Q, ∃ l p, x = kq l p ∧ l < 10 ∧ 2 ≤ p ∧ p < M

variable {M : Nat} {O I : Nat → List Nat} {L : Nat → Int} {rk : Nat → Nat} {Q Q' : List Nat}

theorem Dj.perm {ex : Nat → Prop} (h : Dj M O I L rk Q ex) (hp : Q'.Perm Q) : Dj M O I L rk Q' ex :=
  ⟨h.l0, h.l1, h.bd, h.a, h.b1, fun q h1 h2 h3 h4 => (h.b q h1 h2 h3 h4).imp_left fun ⟨l, e1, e2⟩ => ⟨l, e1, hp.mem_iff.2 e2⟩, fun x hx => h.k x (hp.mem_iff.1 hx)⟩

/-- A key that does not hold any more. -/
theorem Dj.stale (hG : Geo M O I rk) {l p : Nat} (h : Dj M O I L rk (kq l p :: Q) (fun _ => False)) (hp : p < M) (hne : L p ≠ (l : Int)) : Dj M O I L rk Q (fun _ => False) := by
  refine ⟨h.l0, h.l1, h.bd, h.a, h.b1, fun q h1 h2 h3 h4 => ?_, fun x hx => h.k x (List.mem_cons_of_mem _ hx)⟩
  rcases h.b q h1 h2 h3 h4 with ⟨l', e1, e2⟩ | e
  · left
    rcases List.mem_cons.1 e2 with e2 | e2
    · exfalso
      have := hG.m9
      obtain ⟨rfl, rfl⟩ := kq_inj (by omega) (by omega) e2
      exact hne e1
    · exact ⟨l', e1, e2⟩
  · exact .inr e
/-- A key that holds: its place is to be relaxed. -/
theorem Dj.open (hG : Geo M O I rk) {l p : Nat} (h : Dj M O I L rk (kq l p :: Q) (fun _ => False)) (hp : p < M) : Dj M O I L rk Q (fun q => q = p) := by
  refine ⟨h.l0, h.l1, h.bd, h.a, h.b1, fun q h1 h2 h3 h4 => ?_, fun x hx => h.k x (List.mem_cons_of_mem _ hx)⟩
  rcases h.b q h1 h2 h3 (fun h => h) with ⟨l', e1, e2⟩ | e
  · left
    rcases List.mem_cons.1 e2 with e2 | e2
    · exfalso
      have := hG.m9
      obtain ⟨rfl, rfl⟩ := kq_inj (by omega) (by omega) e2
      exact h4 rfl
    · exact ⟨l', e1, e2⟩
  · exact .inr e
/-- One place u that leads to p takes a shorter length. -/
theorem Dj.relax (hG : Geo M O I rk) {l p u : Nat} (h : Dj M O I L rk Q (fun q => q = p)) (hp2 : 2 ≤ p) (hl : L p = (l : Int)) (hu : u ∈ I p) (hlt : L u < 0 ∨ (l : Int) + 1 < L u) :
    Dj M O I (fun y => if y = u then (l : Int) + 1 else L y) rk (Q ++ [kq (l + 1) u]) (fun q => q = p) ∧ (l : Int) + 1 ≤ 7 ∧ u ≠ p := by
  obtain ⟨hp1, hpM, hu2, huM, hrk⟩ := hG.e u p ((hG.sym u p).1 hu)
  have hup : u ≠ p := by rintro rfl; omega
  have hbp := h.bd p
  have hr7 := hG.r7 u
  have hl7 : (l : Int) + 1 ≤ 7 := by omega
  have hle : ∀ y, 0 ≤ L y → 0 ≤ (if y = u then (l : Int) + 1 else L y) ∧ (if y = u then (l : Int) + 1 else L y) ≤ L y := by
    intro y hy
    split
    · rename_i e; subst e; omega
    · omega
  refine ⟨⟨?_, ?_, ?_, ?_, ?_, ?_, ?_⟩, hl7, hup⟩
  · show (if 0 = u then (l : Int) + 1 else L 0) = -1
    rw [if_neg (by omega)]; exact h.l0
  · show (if 1 = u then (l : Int) + 1 else L 1) = 0
    rw [if_neg (by omega)]; exact h.l1
  · intro y
    show -1 ≤ (if y = u then (l : Int) + 1 else L y) ∧ (if y = u then (l : Int) + 1 else L y) ≤ (rk y : Int)
    have := h.bd y
    split
    · rename_i e; subst e; omega
    · exact this
  · intro y h1 h2 h3
    by_cases hyu : y = u
    · subst hyu
      refine ⟨p, (hG.sym _ _).1 hu, ?_, ?_⟩
      · show 0 ≤ (if p = y then (l : Int) + 1 else L p)
        rw [if_neg (Ne.symm hup)]; omega
      · show (if p = y then (l : Int) + 1 else L p) + 1 ≤ (if y = y then (l : Int) + 1 else L y)
        rw [if_neg (Ne.symm hup), if_pos rfl]; omega
    · have h3' : 0 ≤ L y := by
        have : (if y = u then (l : Int) + 1 else L y) = L y := if_neg hyu
        omega
      obtain ⟨q, hq, q1, q2⟩ := h.a y h1 h2 h3'
      refine ⟨q, hq, (hle q q1).1, ?_⟩
      show (if q = u then (l : Int) + 1 else L q) + 1 ≤ (if y = u then (l : Int) + 1 else L y)
      rw [if_neg hyu]
      have := (hle q q1).2
      omega
  · intro y hy
    have := h.b1 y hy
    show 0 ≤ (if y = u then (l : Int) + 1 else L y) ∧ (if y = u then (l : Int) + 1 else L y) ≤ 1
    split
    · rename_i e; subst e; omega
    · exact this
  · intro q h1 h2 h3 h4
    by_cases hqu : q = u
    · subst hqu
      left
      refine ⟨l + 1, ?_, by simp⟩
      show (if q = q then (l : Int) + 1 else L q) = _
      rw [if_pos rfl]; omega
    · have e : (if q = u then (l : Int) + 1 else L q) = L q := if_neg hqu
      have h3' : 0 ≤ L q := by have h3'' : 0 ≤ (if q = u then (l : Int) + 1 else L q) := h3; omega
      rcases h.b q h1 h2 h3' h4 with ⟨l', e1, e2⟩ | e1
      · exact .inl ⟨l', by show (if q = u then (l : Int) + 1 else L q) = _; rw [e]; exact e1, List.mem_append_left _ e2⟩
      · right
        intro y hy
        obtain ⟨y1, y2⟩ := e1 y hy
        have := hle y y1
        show 0 ≤ (if y = u then (l : Int) + 1 else L y) ∧ (if y = u then (l : Int) + 1 else L y) ≤ (if q = u then (l : Int) + 1 else L q) + 1
        rw [e]
        omega
  · intro x hx
    rcases List.mem_append.1 hx with hx | hx
    · exact h.k x hx
    · simp at hx
      subst hx
      exact ⟨l + 1, u, rfl, by omega, hu2, huM⟩
/-- p is relaxed. -/
theorem Dj.close {p : Nat} (h : Dj M O I L rk Q (fun q => q = p)) (hr : ∀ u ∈ I p, 0 ≤ L u ∧ L u ≤ L p + 1) : Dj M O I L rk Q (fun _ => False) := by
  refine ⟨h.l0, h.l1, h.bd, h.a, h.b1, fun q h1 h2 h3 _ => ?_, h.k⟩
  by_cases hq : q = p
  · subst hq; exact .inr hr
  · exact h.b q h1 h2 h3 hq
/-- An empty heap: the lengths are fixed. -/
theorem Dj.fix (hG : Geo M O I rk) (h : Dj M O I L rk [] (fun _ => False)) : ∀ p, 2 ≤ p → p < M → Best L (O p) (L p) := by
  have hrel : ∀ p q, q ∈ O p → 0 ≤ L q → 0 ≤ L p ∧ L p ≤ L q + 1 := by
    intro p q hq hq0
    obtain ⟨h1, h2, h3, h4, _⟩ := hG.e p q hq
    have hpI := (hG.sym p q).2 hq
    by_cases hq1 : q = 1
    · subst hq1
      have h5 := h.b1 p hpI
      have h6 := h.l1
      omega
    · rcases h.b q (by omega) h2 hq0 (fun h => h) with ⟨_, _, e⟩ | e
      · simp at e
      · exact e p hpI
  intro p hp2 hpM
  by_cases h0 : 0 ≤ L p
  · obtain ⟨q, hq, q1, q2⟩ := h.a p hp2 hpM h0
    have := hrel p q hq q1
    exact .inr ⟨q, hq, q1, by omega, fun y hy hy0 => (hrel p y hy hy0).2⟩
  · refine .inl ⟨by have := h.bd p; omega, fun q hq => ?_⟩
    rcases Int.lt_or_le (L q) 0 with hlt | hge
    · exact hlt
    · have := hrel p q hq hge; omega

/-- What is left to a length. -/
def pot (x : Int) : Nat := if x < 0 then 9 else x.toNat
def pots (L : Nat → Int) (M : Nat) : Nat := ((List.range M).map (fun p => pot (L p))).sum
theorem pots_upd {L : Nat → Int} {M u : Nat} {x : Int} (hu : u < M) : pots (fun y => if y = u then x else L y) M + pot (L u) = pots L M + pot x := by
  induction M with
  | zero => omega
  | succ M ih =>
    unfold pots at *
    rw [List.range_succ]
    simp only [List.map_append, List.map_cons, List.map_nil, List.sum_append, List.sum_cons, List.sum_nil]
    by_cases h : u = M
    · subst h
      have : (List.range u).map (fun p => pot (if p = u then x else L p)) = (List.range u).map (fun p => pot (L p)) := by
        apply List.map_congr_left
        intro y hy
        have := List.mem_range.1 hy
        rw [if_neg (by omega)]
      rw [this, if_pos rfl]
      omega
    · have ih' := ih (by omega)
      dsimp only at ih' ⊢
      rw [if_neg (Ne.symm h)]
      omega
theorem pot_less {l : Nat} {x : Int} (hl : (l : Int) + 1 ≤ 7) (hx : x < 0 ∨ (l : Int) + 1 < x) : pot ((l : Int) + 1) + 1 ≤ pot x := by
  unfold pot
  rw [if_neg (by omega)]
  rcases hx with h | h
  · rw [if_pos h]; omega
  · rw [if_neg (by omega)]; omega
end Go.Proofs.Ybulkuoc
