/- The rounds of spread's first loop, plain. -/
import Derived.Test.YbulkuocPlainEnd
import Derived.Test.YbulkuocDj
namespace Go.Proofs.Ybulkuoc

theorem Inv.imp2 {A : Nat → List Nat} {N : Nat} {d : Nat → Int} {J : List Nat} {O I : Nat → List Nat} {Dn Dn' : Nat → Nat → Prop} (h : Inv A N d J O I Dn) (hi : ∀ a b, Dn' a b → b ∈ A a → a < N → Dn a b) (hj : ∀ a b, Dn' a b → b ∈ J) : Inv A N d J O I Dn' :=
  ⟨h.nd, h.rng, h.dz, h.sound, h.sym, fun a b ha hb hc => h.comp a b ha hb (hc.imp_right fun ⟨h1, h2⟩ => ⟨h1, h2.imp_right (fun h3 => hi a b h3 hb (h.rng a ha).2)⟩), hj, fun a b hd hb hN => h.cl a b (hi a b hd hb hN) hb hN⟩
/-- One more has been taken. -/
theorem Inv.took {A : Nat → List Nat} {N : Nat} {d : Nat → Int} {J T : List Nat} {O I : Nat → List Nat} {i x0 : Nat} (hx : J[i]? = some x0) (h : Inv A N d (J ++ T) O I (fun u x => x ∈ J.take i ∨ (x = x0 ∧ u ∈ (preds A N x0).take (preds A N x0).length))) : Inv A N d (J ++ T) O I (fun _ x => x ∈ (J ++ T).take (i + 1)) := by
  have hi := (List.getElem?_eq_some_iff.1 hx).1
  have ht : ∀ b, b ∈ (J ++ T).take (i + 1) ↔ b ∈ J.take i ∨ b = x0 := by
    intro b
    rw [List.take_append_of_le_length (by omega)]
    exact take_mem hx
  refine h.imp2 (fun a b hab hb haN => ?_) (fun a b hab => List.mem_of_mem_take hab)
  rcases (ht b).1 hab with h1 | h1
  · exact .inl h1
  · subst h1
    refine .inr ⟨rfl, ?_⟩
    rw [List.take_length, preds_mem]
    exact ⟨haN, hb⟩
theorem workJ_took {A P : Nat → List Nat} {W : Nat} {J T : List Nat} {i x0 : Nat} (hx : J[i]? = some x0) (hT : ∀ x ∈ T, x ≠ W) : workJ A P W (J ++ T) (i + 1) = workJ A P W J i + (1 + (P x0).length) + sumA A T := by
  have hi := (List.getElem?_eq_some_iff.1 hx).1
  have hs : (T.map (fun x => if x = W then 0 else 1 + (A x).length)) = T.map (fun x => 1 + (A x).length) := by
    apply List.map_congr_left
    intro x h
    rw [if_neg (hT x h)]
  unfold workJ sumA
  rw [List.take_append_of_le_length (by omega), List.take_add_one, hx]
  simp only [List.map_append, List.sum_append, hs, Option.toList, List.map_cons, List.map_nil, List.sum_cons, List.sum_nil]
  omega
/-- The node of a place. -/
def rkJ (J : List Nat) (p : Nat) : Nat := if p < 2 then 0 else (J[p - 2]?).getD 0
theorem rkJ_pc {J : List Nat} {u : Nat} (hu : u = 0 ∨ u ∈ J) : rkJ J (pc J u) = u := by
  unfold rkJ
  by_cases h0 : u = 0
  · subst h0; rfl
  · have hm := hu.resolve_left h0
    have hl := List.idxOf_lt_length_of_mem hm
    rw [pc_pos h0, if_neg (by omega), show J.idxOf u + 2 - 2 = J.idxOf u by omega, List.getElem?_eq_getElem hl]
    exact List.getElem_idxOf hl
theorem Inv.geo {c : Tc} {D : Nat → Option Ent} {A : Nat → List Nat} {W : Nat} {d : Nat → Int} {J : List Nat} {O I : Nat → List Nat} {Dn : Nat → Nat → Prop} (hG : Gph c D A W d) (h : Inv A c.N d J O I Dn) (hl : J.length ≤ 7) : Geo (J.length + 2) O I (rkJ J) := by
  refine ⟨by omega, by omega, fun p q hq => ?_, h.sym, fun p => ?_⟩
  · obtain ⟨u, x, h1, rfl, h3, h4, rfl⟩ := h.sound p q hq
    obtain ⟨u1, uN⟩ := h.rng u h1
    refine ⟨pc_one _ _, pc_lt h4, pc_two (by omega), pc_lt (.inr h1), ?_⟩
    rw [rkJ_pc h4, rkJ_pc (.inr h1)]
    exact ((hG.row u uN).lt x h3).1
  · unfold rkJ
    split
    · omega
    · cases hx : J[p - 2]? with
      | none => simp
      | some u =>
        have := (h.rng u (List.mem_of_getElem? hx)).2
        have := hG.n8
        simp
        omega
end Go.Proofs.Ybulkuoc
