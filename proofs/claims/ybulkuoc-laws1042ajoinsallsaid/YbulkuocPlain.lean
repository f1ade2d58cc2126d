/- The plain state while nodes come in: no Go in sight. -/
import Derived.Test.YbulkuocLink
namespace Go.Proofs.Ybulkuoc

theorem idx_mem {J : List Nat} {u y : Nat} (h : y ∈ J) : (J ++ [u]).idxOf y = J.idxOf y := by rw [List.idxOf_append, if_pos h]
theorem idx_new {J : List Nat} {u : Nat} (h : u ∉ J) : (J ++ [u]).idxOf u = J.length := by rw [List.idxOf_append, if_neg h]; simp
/-- The place of node u. -/
def pc (J : List Nat) (u : Nat) : Nat := if u = 0 then 1 else J.idxOf u + 2
theorem pc_zero (J : List Nat) : pc J 0 = 1 := rfl
theorem pc_pos {J : List Nat} {u : Nat} (h : u ≠ 0) : pc J u = J.idxOf u + 2 := by simp [pc, h]
theorem pc_old {J : List Nat} {u y : Nat} (hy : y = 0 ∨ y ∈ J) : pc (J ++ [u]) y = pc J y := by
  unfold pc
  split
  · rfl
  · rename_i h
    rcases hy with rfl | hy
    · exact absurd rfl h
    · rw [idx_mem hy]
theorem pc_new {J : List Nat} {u : Nat} (hu : u ∉ J) (h0 : u ≠ 0) : pc (J ++ [u]) u = J.length + 2 := by
  rw [pc_pos h0, idx_new hu]
theorem pc_lt {J : List Nat} {y : Nat} (hy : y = 0 ∨ y ∈ J) : pc J y < J.length + 2 := by
  unfold pc
  split
  · omega
  · rename_i h
    rcases hy with rfl | hy
    · exact absurd rfl h
    · have := List.idxOf_lt_length_of_mem hy
      omega
theorem pc_one (J : List Nat) (y : Nat) : 1 ≤ pc J y := by unfold pc; split <;> omega
theorem pc_two {J : List Nat} {y : Nat} (h : y ≠ 0) : 2 ≤ pc J y := by rw [pc_pos h]; omega
theorem pc_inj {J : List Nat} {x y : Nat} (hx : x = 0 ∨ x ∈ J) (hy : y = 0 ∨ y ∈ J) (h : pc J x = pc J y) : x = y := by
  by_cases h0 : x = 0
  · subst h0
    by_cases h1 : y = 0
    · exact h1.symm
    · rw [pc_zero, pc_pos h1] at h; omega
  · by_cases h1 : y = 0
    · subst h1; rw [pc_zero, pc_pos h0] at h; omega
    · rw [pc_pos h0, pc_pos h1] at h
      have hx' := hx.resolve_left h0
      have hy' := hy.resolve_left h1
      have l1 := List.idxOf_lt_length_of_mem hx'
      have l2 := List.idxOf_lt_length_of_mem hy'
      have e1 := List.getElem_idxOf l1
      have e2 := List.getElem_idxOf l2
      rw [← e1, ← e2]
      congr 1
      omega
theorem plOf_pc {J : List Nat} {y q : Nat} : plOf (plJ J) y = some q ↔ (y = 0 ∨ y ∈ J) ∧ q = pc J y := by
  unfold plOf plJ pc
  by_cases h0 : y = 0
  · subst h0
    simp
    exact ⟨fun h => h.symm, fun h => h.symm⟩
  · by_cases hm : y ∈ J
    · simp [h0, hm]
      exact ⟨fun h => h.symm, fun h => h.symm⟩
    · simp [h0, hm]

structure Inv (A : Nat → List Nat) (N : Nat) (d : Nat → Int) (J : List Nat) (O I : Nat → List Nat) (Dn : Nat → Nat → Prop) : Prop where
  nd : J.Nodup
  rng : ∀ u ∈ J, 1 ≤ u ∧ u < N
  dz : ∀ u ∈ J, 0 ≤ d u
  sound : ∀ p q, q ∈ O p → ∃ u x, u ∈ J ∧ p = pc J u ∧ x ∈ A u ∧ (x = 0 ∨ x ∈ J) ∧ q = pc J x
  sym : ∀ p q, p ∈ I q ↔ q ∈ O p
  comp : ∀ u x, u ∈ J → x ∈ A u → (x = 0 ∨ (x ∈ J ∧ (J.idxOf x < J.idxOf u ∨ Dn u x))) → pc J x ∈ O (pc J u)
  dnJ : ∀ u x, Dn u x → x ∈ J
  cl : ∀ u x, Dn u x → x ∈ A u → u < N → u ∈ J

variable {A : Nat → List Nat} {N W : Nat} {d : Nat → Int} {J : List Nat} {O I O' I' : Nat → List Nat} {Dn : Nat → Nat → Prop}

theorem Inv.mark (h : Inv A N d J O I Dn) {u x : Nat} (hu : u ∈ J) (hx : x ∈ J) (he : pc J x ∈ O (pc J u)) : Inv A N d J O I (fun a b => Dn a b ∨ (b = x ∧ a = u)) := by
  refine ⟨h.nd, h.rng, h.dz, h.sound, h.sym, ?_, ?_, ?_⟩
  · rintro a b ha hb (h0 | ⟨hbJ, h1 | h1 | ⟨rfl, rfl⟩⟩)
    · exact h.comp a b ha hb (.inl h0)
    · exact h.comp a b ha hb (.inr ⟨hbJ, .inl h1⟩)
    · exact h.comp a b ha hb (.inr ⟨hbJ, .inr h1⟩)
    · exact he
  · rintro a b (h1 | ⟨rfl, rfl⟩)
    · exact h.dnJ a b h1
    · exact hx
  · rintro a b (h1 | ⟨rfl, rfl⟩) hb hN
    · exact h.cl a b h1 hb hN
    · exact hu
theorem Inv.lessen (h : Inv A N d J O I Dn) {Dn' : Nat → Nat → Prop} (hi : ∀ a b, Dn' a b → Dn a b) : Inv A N d J O I Dn' :=
  ⟨h.nd, h.rng, h.dz, h.sound, h.sym, fun a b ha hb hc => h.comp a b ha hb (hc.imp_right fun ⟨h1, h2⟩ => ⟨h1, h2.imp_right (hi a b)⟩), fun a b hd => h.dnJ a b (hi a b hd), fun a b hd => h.cl a b (hi a b hd)⟩

theorem Inv.link (h : Inv A N d J O I Dn) {u x : Nat} (hu : u ∈ J) (hx : x ∈ J) (hxu : x ∈ A u) (hl : Lk O I O' I' (pc J u) (pc J x)) : Inv A N d J O' I' Dn ∧ pc J x ∈ O' (pc J u) := by
  obtain ⟨l1, l2⟩ := hl
  refine ⟨⟨h.nd, h.rng, h.dz, ?_, ?_, ?_, h.dnJ, h.cl⟩, (l1 _ _).2 (.inr ⟨rfl, rfl⟩)⟩
  · intro p q hq
    rcases (l1 p q).1 hq with hq | ⟨rfl, rfl⟩
    · exact h.sound p q hq
    · exact ⟨u, x, hu, rfl, hxu, .inr hx, rfl⟩
  · intro p q
    rw [l1, l2, h.sym]
    constructor
    · rintro (h1 | ⟨rfl, rfl⟩)
      · exact .inl h1
      · exact .inr ⟨rfl, rfl⟩
    · rintro (h1 | ⟨rfl, rfl⟩)
      · exact .inl h1
      · exact .inr ⟨rfl, rfl⟩
  · intro a b ha hb hc
    exact (l1 _ _).2 (.inl (h.comp a b ha hb hc))

theorem Inv.join (h : Inv A N d J O I Dn) {u : Nat} (hu : u ∉ J) (hu1 : 1 ≤ u) (huN : u < N) (hdu : 0 ≤ d u) (hlt : ∀ x ∈ A u, x < u) {lo : List Nat} (hp : lo.Perm (plsOf (plJ (J ++ [u])) ((J.length + 2 : Nat) : Int) (A u))) :
    Inv A N d (J ++ [u]) (fun p => if p = J.length + 2 then lo else O p) (fun q => if q = J.length + 2 then [] else if q ∈ lo then I q ++ [J.length + 2] else I q) Dn := by
  have hu0 : u ≠ 0 := by omega
  have hlo : ∀ q, q ∈ lo ↔ ∃ x ∈ A u, (x = 0 ∨ x ∈ J) ∧ q = pc J x := by
    intro q
    rw [hp.mem_iff, mem_plsOf]
    constructor
    · rintro ⟨x, hx, h1, h2⟩
      obtain ⟨h3, rfl⟩ := plOf_pc.1 h1
      have hxu : x ≠ u := by have := hlt x hx; omega
      have h4 : x = 0 ∨ x ∈ J := by
        rcases h3 with h3 | h3
        · exact .inl h3
        · rcases List.mem_append.1 h3 with h3 | h3
          · exact .inr h3
          · simp at h3; exact absurd h3 hxu
      exact ⟨x, hx, h4, pc_old h4⟩
    · rintro ⟨x, hx, h4, rfl⟩
      refine ⟨x, hx, plOf_pc.2 ⟨?_, (pc_old h4).symm⟩, ?_⟩
      · rcases h4 with h4 | h4
        · exact .inl h4
        · exact .inr (List.mem_append_left _ h4)
      · have := pc_lt h4; omega
  have hmem : ∀ {x}, (x = 0 ∨ x ∈ J) → (x = 0 ∨ x ∈ J ++ [u]) := fun hx => hx.imp_right (List.mem_append_left _)
  have hOl : ∀ p q, q ∈ O p → p < J.length + 2 ∧ q < J.length + 2 := by
    intro p q hq
    obtain ⟨a, x, h1, rfl, _, h2, rfl⟩ := h.sound p q hq
    exact ⟨pc_lt (.inr h1), pc_lt h2⟩
  refine ⟨?_, ?_, ?_, ?_, ?_, ?_, ?_, ?_⟩
  · exact List.nodup_append.2 ⟨h.nd, by simp, by rintro a ha b hb rfl; simp at hb; subst hb; exact hu ha⟩
  · intro a ha
    rcases List.mem_append.1 ha with ha | ha
    · exact h.rng a ha
    · simp at ha; subst ha; exact ⟨hu1, huN⟩
  · intro a ha
    rcases List.mem_append.1 ha with ha | ha
    · exact h.dz a ha
    · simp at ha; subst ha; exact hdu
  · intro p q hq
    by_cases hpM : p = J.length + 2
    · rw [if_pos hpM] at hq
      obtain ⟨x, hx, h4, rfl⟩ := (hlo q).1 hq
      exact ⟨u, x, by simp, by rw [pc_new hu hu0]; exact hpM, hx, hmem h4, (pc_old h4).symm⟩
    · rw [if_neg hpM] at hq
      obtain ⟨a, x, h1, h2, h3, h4, h5⟩ := h.sound p q hq
      exact ⟨a, x, List.mem_append_left _ h1, by rw [pc_old (.inr h1)]; exact h2, h3, hmem h4, by rw [pc_old h4]; exact h5⟩
  · intro p q
    by_cases hqM : q = J.length + 2
    · subst hqM
      rw [if_pos rfl]
      constructor
      · intro hh; simp at hh
      · intro hh
        exfalso
        by_cases hpM : p = J.length + 2
        · rw [if_pos hpM] at hh
          obtain ⟨x, _, h4, h5⟩ := (hlo _).1 hh
          have := pc_lt h4; omega
        · rw [if_neg hpM] at hh
          have := hOl p _ hh; omega
    · rw [if_neg hqM]
      by_cases hpM : p = J.length + 2
      · rw [if_pos hpM]
        by_cases hql : q ∈ lo
        · rw [if_pos hql, hpM]; simp [hql]
        · rw [if_neg hql]
          constructor
          · intro hh
            have := hOl p q ((h.sym p q).1 hh); omega
          · intro hh; exact absurd hh hql
      · rw [if_neg hpM]
        by_cases hql : q ∈ lo
        · rw [if_pos hql, List.mem_append, h.sym p q]
          simp [hpM]
        · rw [if_neg hql, h.sym p q]
  · intro a b hab hb hc
    rcases List.mem_append.1 hab with ha | ha
    · rw [pc_old (.inr ha), if_neg (by have := pc_lt (J := J) (y := a) (.inr ha); omega)]
      rcases hc with h0 | ⟨hbJ, h1⟩
      · rw [pc_old (.inl h0)]
        exact h.comp a b ha hb (.inl h0)
      · rcases List.mem_append.1 hbJ with hbK | hbK
        · rw [pc_old (.inr hbK)]
          refine h.comp a b ha hb (.inr ⟨hbK, ?_⟩)
          rw [idx_mem hbK, idx_mem ha] at h1
          exact h1
        · simp at hbK
          subst hbK
          exfalso
          rcases h1 with h1 | h1
          · have e1 := idx_new hu
            have e2 := idx_mem (u := b) ha
            have := List.idxOf_lt_length_of_mem ha
            omega
          · exact hu (h.dnJ a b h1)
    · simp at ha
      subst ha
      rw [pc_new hu hu0, if_pos rfl]
      have hba : b ≠ a := by have := hlt b hb; omega
      have hb' : b = 0 ∨ b ∈ J := by
        rcases hc with h0 | ⟨hbJ, _⟩
        · exact .inl h0
        · rcases List.mem_append.1 hbJ with hbJ | hbJ
          · exact .inr hbJ
          · simp at hbJ; exact absurd hbJ hba
      rw [pc_old hb']
      exact (hlo _).2 ⟨b, hb, hb', rfl⟩
  · intro a b hd
    exact List.mem_append_left _ (h.dnJ a b hd)
  · intro a b hd hb hN
    exact List.mem_append_left _ (h.cl a b hd hb hN)
end Go.Proofs.Ybulkuoc
