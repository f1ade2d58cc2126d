/-
  A law of ours on a region that draws its order: ONE RELATION between what has come up, the frame and the world, shown anew behind each operation that may come up; no order is walked.
-/
import Derived.Orders
import Derived.Below
namespace Go.Proofs.Ybulkuoc
open Go

/-- Every edge that binds leads back. -/
def backB (ops : Array Oper) : Bool :=
  (List.range ops.size).all fun i => ((ops[i]?).map (·.after.all fun e => !Region.binds .any e || decide (e.on < i))).getD true

theorem least_false (l : Array Bool) : ∀ n, (∀ i, i < n → l.getD i true = true) ∨ ∃ i, i < n ∧ l.getD i true = false ∧ ∀ j, j < i → l.getD j true = true
  | 0 => .inl (fun i hi => absurd hi (Nat.not_lt_zero i))
  | n + 1 => by
    rcases least_false l n with h | ⟨i, hi, h1, h2⟩
    · cases hn : l.getD n true with
      | false => exact .inr ⟨n, Nat.lt_succ_self n, hn, h⟩
      | true =>
        refine .inl (fun i hi => ?_)
        rcases Nat.lt_or_eq_of_le (Nat.le_of_lt_succ hi) with h' | h'
        · exact h i h'
        · rw [h']; exact hn
    · exact .inr ⟨i, Nat.lt_succ_of_lt hi, h1, h2⟩

theorem wpAny_inv {P : Program} {ops : Array Oper} {Q : Exit → Act → World → Prop} (hback : backB ops = true)
    (J : Array Bool → Act → World → Prop)
    (hstep : ∀ (l : Array Bool) (a : Act) (w : World), l.size = ops.size → J l a w → ∀ (i : Nat) (o : Oper), ops[i]? = some o → l.getD i true = false →
      (∀ e ∈ o.after, Region.binds .any e = true → l.getD e.on false = true) → wpOp P ops Q i (J (l.setIfInBounds i true)) a w)
    (hend : ∀ (l : Array Bool) (a : Act) (w : World), (∀ i, i < ops.size → l.getD i false = true) → J l a w → Q .normal a w) :
    ∀ (fuel : Nat) (l : Array Bool) (a : Act) (w : World), l.size = ops.size → l.toList.count false ≤ fuel → J l a w → wpAny P .any ops Q fuel l a w := by
  have allIn : ∀ (l : Array Bool), l.size = ops.size → (∀ i, i < ops.size → l.getD i true = true) → ∀ i, i < ops.size → l.getD i false = true := by
    intro l hl h i hi
    have := h i hi
    have hi' : i < l.size := by omega
    simp [Array.getD, hi'] at this ⊢
    exact this
  have ready_nil : ∀ (l : Array Bool), l.size = ops.size → Region.ready .any ops l = [] → ∀ i, i < ops.size → l.getD i true = true := by
    intro l hl hr
    rcases least_false l ops.size with h | ⟨i, hi, h1, h2⟩
    · exact h
    · exfalso
      have hmem : i ∈ Region.ready .any ops l := by
        rw [mem_ready]
        refine ⟨h1, ops[i], by simp [hi], ?_⟩
        intro e he hb
        have hb1 := List.all_eq_true.1 hback i (List.mem_range.2 hi)
        simp only [Array.getElem?_eq_getElem hi, Option.map_some, Option.getD_some] at hb1
        have hb2 := Array.all_eq_true_iff_forall_mem.1 hb1 e he
        simp only [hb, Bool.not_true, Bool.false_or, decide_eq_true_eq] at hb2
        have h3 := h2 e.on hb2
        have hi' : e.on < l.size := by omega
        simp [Array.getD, hi'] at h3 ⊢
        exact h3
      rw [hr] at hmem
      cases hmem
  intro fuel
  induction fuel with
  | zero =>
    intro l a w hl hc hJ
    have hall : ∀ i, i < ops.size → l.getD i true = true := by
      intro i hi
      have hi' : i < l.size := by omega
      cases h : l[i] with
      | true => simp [Array.getD, hi', h]
      | false =>
        exfalso
        have : false ∈ l.toList := by rw [← h]; exact Array.getElem_mem_toList hi'
        have := List.count_pos_iff.2 this
        omega
    refine ⟨?_, hend l a w (allIn l hl hall) hJ⟩
    cases hr : Region.ready .any ops l with
    | nil => rfl
    | cons i r =>
      exfalso
      have hm : i ∈ Region.ready .any ops l := by rw [hr]; exact List.mem_cons_self
      obtain ⟨h1, o, ho, _⟩ := mem_ready.1 hm
      have hi : i < ops.size := (Array.getElem?_eq_some_iff.1 ho).1
      rw [hall i hi] at h1
      cases h1
  | succ fuel ih =>
    intro l a w hl hc hJ
    refine ⟨fun hr => hend l a w (allIn l hl (ready_nil l hl hr)) hJ, fun i hi => ?_⟩
    obtain ⟨h1, o, ho, h2⟩ := mem_ready.1 hi
    refine wpOp_mono (fun a' w' hJ' => ih _ a' w' (by simp [hl]) ?_ hJ') (hstep l a w hl hJ i o ho h1 h2)
    have hio : i < ops.size := (Array.getElem?_eq_some_iff.1 ho).1
    have hi' : i < l.size := by omega
    have hfi : l[i] = false := by simpa [Array.getD, hi'] using h1
    have hset : (l.setIfInBounds i true).toList = l.toList.set i true := by simp
    rw [hset, List.count_set (by simpa using hi')]
    simp [hfi]
    have : false ∈ l.toList := by rw [← hfi]; exact Array.getElem_mem_toList hi'
    have := List.count_pos_iff.2 this
    simp at this hc
    omega

/-- THE LAW: a region that draws its order, under one relation. -/
theorem wp_region_inv {P : Program} {id : Nat} {ops : Array Oper} {Q : Exit → Act → World → Prop} {a : Act} {w : World} (hm : P.follows .mixedOrders = true) (hback : backB ops = true)
    (J : Array Bool → Act → World → Prop) (h0 : J (Array.replicate ops.size false) a w.drew)
    (hstep : ∀ (l : Array Bool) (a : Act) (w : World), l.size = ops.size → J l a w → ∀ (i : Nat) (o : Oper), ops[i]? = some o → l.getD i true = false →
      (∀ e ∈ o.after, Region.binds .any e = true → l.getD e.on false = true) → wpOp P ops Q i (J (l.setIfInBounds i true)) a w)
    (hend : ∀ (l : Array Bool) (a : Act) (w : World), (∀ i, i < ops.size → l.getD i false = true) → J l a w → Q .normal a w) : (Code.region id ops true).wp P Q a w := by
  refine wp_region_any hm (wpAny_inv hback J hstep hend _ _ _ _ (by simp) (by simp) h0)

/-- An operation that hands back a value. -/
theorem wpOp_val {P : Program} {ops : Array Oper} {Q : Exit → Act → World → Prop} {i : Nat} {o : Oper} {K : Act → World → Prop} {a : Act} {w w' : World} {v : Value} {d : Option Tmp} (ho : ops[i]? = some o) (hg : o.guard = none) (hd : o.dst = d)
    (hrun : (execOp a.eval o).run P w = .ok (.value v) w') (h : K (a.put d v) w') : wpOp P ops Q i K a w := by
  subst hd
  unfold wpOp
  simp only [ho]
  rw [if_pos (by simp [Region.wanted, hg])]
  left
  unfold Oper.wp
  rw [hrun]
  exact h

/-- An operation that hands back nothing. -/
theorem wpOp_skip {P : Program} {ops : Array Oper} {Q : Exit → Act → World → Prop} {i : Nat} {o : Oper} {K : Act → World → Prop} {a : Act} {w w' : World} {d : Option Tmp} (ho : ops[i]? = some o) (hg : o.guard = none) (hd : o.dst = d)
    (hrun : (execOp a.eval o).run P w = .ok .skip w') (h : K (a.put d undef) w') : wpOp P ops Q i K a w := by
  subst hd
  unfold wpOp
  simp only [ho]
  rw [if_pos (by simp [Region.wanted, hg])]
  left
  unfold Oper.wp
  rw [hrun]
  exact h

section
variable {P : Program} {w w' : World} {ρ : Operand → Value} {o : Oper} {v : Value}
theorem exec_move {x : Operand} (ho : o.op = .move x) (hv : ρ x = v) : (execOp ρ o).run P w = .ok (.value v) w := by simp [execOp, ho, hv]
theorem exec_assign {x : Operand} (ho : o.op = .assign x) (hv : ρ x = v) : (execOp ρ o).run P w = .ok (.value v) w := by simp [execOp, ho, hv]
theorem exec_makeMap {t : TypeId} (ho : o.op = .makeMap t none) : (execOp ρ o).run P w = .ok (.value (.map (some w.heap.size))) (w.alloc (.map #[] 0)) := by simp only [execOp, ho]; rfl
theorem exec_makeSlice {t : TypeId} {l c : Operand} {vl vc : Value} (ho : o.op = .makeSlice t l c) (hl : ρ l = vl) (hc : ρ c = vc) (hr : (Instr.makeSlice t vl vc).run P w = .ok v w') : (execOp ρ o).run P w = .ok (.value v) w' := by
  simp [execOp, ho, hl, hc, hr]
theorem exec_build {t : TypeId} {ps : Array (Nat × Operand)} {qs : Array (Nat × Value)} (ho : o.op = .build t ps) (hp : ps.map (fun (i, x) => (i, ρ x)) = qs) (hr : (Instr.build t qs).run P w = .ok v w') : (execOp ρ o).run P w = .ok (.value v) w' := by
  simp only [execOp, ho, hp, Sem.run_bind, hr]; rfl
theorem exec_buildSlice {t : TypeId} {n : Nat} {ps : Array (Nat × Operand)} {qs : Array (Nat × Value)} (ho : o.op = .buildSlice t n ps) (hp : ps.map (fun (i, x) => (i, ρ x)) = qs) (hr : (Instr.buildSlice t n qs).run P w = .ok v w') : (execOp ρ o).run P w = .ok (.value v) w' := by
  simp only [execOp, ho, hp, Sem.run_bind, hr]; rfl
theorem exec_box {t : TypeId} {x : Operand} {vx : Value} (ho : o.op = .box t x) (hx : ρ x = vx) (hr : (Instr.box t vx).run P w = .ok v w') : (execOp ρ o).run P w = .ok (.value v) w' := by
  simp [execOp, ho, hx, hr]
theorem exec_load {t : TypeId} {x : Operand} {vx : Value} (ho : o.op = .load t x) (hx : ρ x = vx) (hr : (Instr.loadAt t vx).run P w = .ok v w') : (execOp ρ o).run P w = .ok (.value v) w' := by
  simp [execOp, ho, hx, hr]
theorem exec_store {t : TypeId} {x y : Operand} {vx vy : Value} (ho : o.op = .store t x y) (hx : ρ x = vx) (hy : ρ y = vy) (hr : (Instr.storeAt t vx vy).run P w = .ok () w') : (execOp ρ o).run P w = .ok .skip w' := by
  simp [execOp, ho, hx, hy, hr]
end

/-- THE LAW BY FACTS: 'G' holds throughout; 'F k' is what operation k leaves: it stands while the others come up. -/
theorem wp_region_facts {P : Program} {id : Nat} {ops : Array Oper} {Q : Exit → Act → World → Prop} {a : Act} {w : World} (hm : P.follows .mixedOrders = true) (hback : backB ops = true)
    (G : Act → World → Prop) (F : Nat → Act → World → Prop) (h0 : G a w.drew)
    (hstep : ∀ (i : Nat) (o : Oper), ops[i]? = some o → ∀ (l : Array Bool) (a : Act) (w : World), G a w → (∀ k, l.getD k false = true → F k a w) → l.getD i true = false →
      (∀ e ∈ o.after, Region.binds .any e = true → F e.on a w) →
      wpOp P ops Q i (fun a' w' => G a' w' ∧ F i a' w' ∧ ∀ k, k ≠ i → l.getD k false = true → F k a w → F k a' w') a w)
    (hend : ∀ (a : Act) (w : World), G a w → (∀ k, k < ops.size → F k a w) → Q .normal a w) : (Code.region id ops true).wp P Q a w := by
  refine wp_region_inv hm hback (fun l a w => G a w ∧ ∀ k, l.getD k false = true → F k a w) ⟨h0, fun k hk => ?_⟩ ?_ ?_
  · exfalso
    simp only [Array.getD_eq_getD_getElem?, Array.getElem?_replicate] at hk
    split at hk <;> simp at hk
  · rintro l a w hl ⟨hG, hF⟩ i o ho hun haft
    refine wpOp_mono (fun a' w' h => ⟨h.1, fun k hk => ?_⟩) (hstep i o ho l a w hG hF hun (fun e he hb => hF _ (haft e he hb)))
    by_cases hki : k = i
    · subst hki; exact h.2.1
    · have hk' : l.getD k false = true := by rw [getD_set_ne false (Ne.symm hki)] at hk; exact hk
      exact h.2.2 k hki hk' (hF k hk')
  · rintro l a w hall ⟨hG, hF⟩
    exact hend a w hG (fun k hk => hF k (hall k hk))

end Go.Proofs.Ybulkuoc
