/- The plain end: lengths are distances, all have come, the work is counted. -/
import Derived.Test.YbulkuocTakeIn
namespace Go.Proofs.Ybulkuoc

/-- All that lead to v have come in. -/
theorem Inv.full {c : Tc} {D : Nat → Option Ent} {A : Nat → List Nat} {W : Nat} {d : Nat → Int} {J : List Nat} {O I : Nat → List Nat} {Dn : Nat → Nat → Prop} (hG : Gph c D A W d) (h : Inv A c.N d J O I Dn) (hW : W ∈ J) (hD : ∀ u x, x ∈ J → Dn u x) : ∀ n u, u ≤ n → 1 ≤ u → u < c.N → 0 ≤ d u → u ∈ J := by
  intro n
  induction n with
  | zero => intro u h1 h2; omega
  | succ n ih =>
    intro u hun hu1 huN hd
    rcases hG.dst.best u hu1 huN with ⟨h1, _⟩ | ⟨x, hx, hdx, h3, _⟩
    · omega
    · obtain ⟨hlt, h0⟩ := (hG.row u huN).lt x hx
      by_cases hx0 : x = 0
      · rw [h0 hx0]; exact hW
      · have hxJ := ih x (by omega) (by omega) (by omega) hdx
        exact h.cl u x (hD u x hxJ) hx huN

/-- The lengths are the distances. -/
theorem Inv.lens {c : Tc} {D : Nat → Option Ent} {A : Nat → List Nat} {W : Nat} {d : Nat → Int} {J : List Nat} {O I : Nat → List Nat} {Dn : Nat → Nat → Prop} {L : Nat → Int} (hG : Gph c D A W d) (h : Inv A c.N d J O I Dn) (hW : W ∈ J) (hD : ∀ u x, x ∈ J → Dn u x) (hL1 : L 1 = 0) (hfix : ∀ p, 2 ≤ p → p < J.length + 2 → Best L (O p) (L p)) : ∀ n u, u ≤ n → u ∈ J → L (pc J u) = d u := by
  intro n
  induction n with
  | zero => intro u h1 h2; have := h.rng u h2; omega
  | succ n ih =>
    intro u hun hu
    obtain ⟨hu1, huN⟩ := h.rng u hu
    have hb := hfix (pc J u) (pc_two (by omega)) (pc_lt (.inr hu))
    have hd := hG.dst.best u hu1 huN
    have key : ∀ x ∈ A u, (x = 0 ∨ x ∈ J) → L (pc J x) = d x := by
      intro x hx hxj
      rcases hxj with rfl | hxj
      · rw [pc_zero, hL1, hG.dst.z]
      · exact ih x (by have := ((hG.row u huN).lt x hx).1; omega) hxj
    have hneg : ∀ x ∈ A u, ¬ (x = 0 ∨ x ∈ J) → d x < 0 := by
      intro x hx hxj
      rcases Int.lt_or_le (d x) 0 with hlt | hge
      · exact hlt
      · exfalso
        apply hxj
        by_cases h0 : x = 0
        · exact .inl h0
        · have hxl := ((hG.row u huN).lt x hx).1
          exact .inr (Inv.full hG h hW hD x x (Nat.le_refl _) (by omega) (by omega) hge)
    have hOA : ∀ x ∈ A u, (x = 0 ∨ x ∈ J) → pc J x ∈ O (pc J u) := by
      intro x hx hxj
      refine h.comp u x hu hx ?_
      rcases hxj with h0 | hxj
      · exact .inl h0
      · exact .inr ⟨hxj, .inr (hD u x hxj)⟩
    have hAO : ∀ q ∈ O (pc J u), ∃ x ∈ A u, (x = 0 ∨ x ∈ J) ∧ q = pc J x := by
      intro q hq
      obtain ⟨a, x, h1, h2, h3, h4, h5⟩ := h.sound _ _ hq
      have : a = u := (pc_inj (.inr hu) (.inr h1) h2).symm
      subst this
      exact ⟨x, h3, h4, h5⟩
    rcases hd with ⟨hd1, hd2⟩ | ⟨x, hx, hdx, hd3, hd4⟩
    · rw [hd1]
      rcases hb with ⟨hb1, _⟩ | ⟨q, hq, hq0, _, _⟩
      · exact hb1
      · obtain ⟨x, hx, hxj, rfl⟩ := hAO q hq
        rw [key x hx hxj] at hq0
        have := hd2 x hx
        omega
    · have hxj : x = 0 ∨ x ∈ J := by
        by_cases hh : x = 0 ∨ x ∈ J
        · exact hh
        · have := hneg x hx hh; omega
      rcases hb with ⟨_, hb2⟩ | ⟨q, hq, hq0, hq1, hq2⟩
      · have := hb2 _ (hOA x hx hxj)
        rw [key x hx hxj] at this
        omega
      · obtain ⟨y, hy, hyj, rfl⟩ := hAO q hq
        rw [key y hy hyj] at hq0 hq1
        have h1 := hd4 y hy hq0
        have h2 := hq2 _ (hOA x hx hxj) (by rw [key x hx hxj]; exact hdx)
        rw [key x hx hxj] at h2
        omega

/-- The work that has been done when J have come in and the first i of them have been taken. -/
def workJ (A P : Nat → List Nat) (W : Nat) (J : List Nat) (i : Nat) : Nat := 1 + (A W).length + (J.map (fun x => if x = W then 0 else 1 + (A x).length)).sum + ((J.take i).map (fun x => 1 + (P x).length)).sum

theorem sum_sub {f : Nat → Nat} : ∀ {l l' : List Nat}, l.Nodup → (∀ x ∈ l, x ∈ l') → (l.map f).sum ≤ (l'.map f).sum
  | [], _, _, _ => by simp
  | a :: l, l', hn, hs => by
    have h1 := List.nodup_cons.1 hn
    have h2 : ∀ x ∈ l, x ∈ l'.erase a := fun x hx => (List.mem_erase_of_ne (by rintro rfl; exact h1.1 hx)).2 (hs x (List.mem_cons_of_mem _ hx))
    have h3 := sum_sub (f := f) h1.2 h2
    have h4 := ((List.perm_cons_erase (hs a (List.mem_cons_self ..))).map f).sum_nat
    simp only [List.map_cons, List.sum_cons] at h4 ⊢
    omega

theorem workTo_split (A P : Nat → List Nat) (d : Nat → Int) (W N : Nat) : workTo A P d W N = 1 + (A W).length + (((List.range' 1 (N - 1)).filter (fun x => decide (0 ≤ d x))).map (fun x => 1 + (P x).length + (if x = W then 0 else 1 + (A x).length))).sum := by
  unfold workTo
  congr 1
  induction List.range' 1 (N - 1) with
  | nil => rfl
  | cons a l ih =>
    simp only [List.map_cons, List.sum_cons, List.filter_cons]
    by_cases h : 0 ≤ d a
    · simp [h, term, ih]
    · simp [h, term, ih]
theorem sum_add (f g : Nat → Nat) (l : List Nat) : (l.map (fun x => f x + g x)).sum = (l.map f).sum + (l.map g).sum := by
  induction l with
  | nil => rfl
  | cons a l ih => simp only [List.map_cons, List.sum_cons, ih]; omega

/-- However far, the work is within the whole. -/
theorem workJ_le {A : Nat → List Nat} {N : Nat} {d : Nat → Int} {J : List Nat} {O I : Nat → List Nat} {Dn : Nat → Nat → Prop} {W : Nat} (P : Nat → List Nat) (h : Inv A N d J O I Dn) (i : Nat) : workJ A P W J i ≤ workTo A P d W N := by
  rw [workTo_split, sum_add]
  unfold workJ
  have hs : ∀ x ∈ J, x ∈ (List.range' 1 (N - 1)).filter (fun x => decide (0 ≤ d x)) := by
    intro x hx
    rw [List.mem_filter, List.mem_range'_1]
    have := h.rng x hx
    exact ⟨by omega, by simpa using h.dz x hx⟩
  have h1 := sum_sub (f := fun x => if x = W then 0 else 1 + (A x).length) h.nd hs
  have h2 := sum_sub (f := fun x => 1 + (P x).length) (l := J.take i) (h.nd.sublist (List.take_sublist _ _)) (fun x hx => hs x (List.mem_of_mem_take hx))
  omega
/-- At the end it is the whole. -/
theorem workJ_full {A : Nat → List Nat} {N : Nat} {d : Nat → Int} {J : List Nat} {O I : Nat → List Nat} {Dn : Nat → Nat → Prop} {W : Nat} (P : Nat → List Nat) (h : Inv A N d J O I Dn) (hf : ∀ u, 1 ≤ u → u < N → 0 ≤ d u → u ∈ J) : workJ A P W J J.length = workTo A P d W N := by
  refine Nat.le_antisymm (workJ_le P h _) ?_
  rw [workTo_split, sum_add]
  unfold workJ
  rw [List.take_length]
  have hn : ((List.range' 1 (N - 1)).filter (fun x => decide (0 ≤ d x))).Nodup := (List.nodup_range' (step := 1)).filter _
  have hs : ∀ x ∈ (List.range' 1 (N - 1)).filter (fun x => decide (0 ≤ d x)), x ∈ J := by
    intro x hx
    rw [List.mem_filter, List.mem_range'_1] at hx
    exact hf x (by omega) (by omega) (by simpa using hx.2)
  have h1 := sum_sub (f := fun x => if x = W then 0 else 1 + (A x).length) hn hs
  have h2 := sum_sub (f := fun x => 1 + (P x).length) hn hs
  omega
end Go.Proofs.Ybulkuoc
