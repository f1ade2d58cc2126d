/- A law on drawn regions that knows what has come up before. -/
import Derived.Test.YbulkuocElem
namespace Go.Proofs.Ybulkuoc
open Go.RowKit

theorem wp_region_ghost3 {P : Program} {id : Nat} {ops : Array Oper} {Q : Exit → Act → World → Prop} {a0 : Act} {w0 : World} (hm : P.follows .mixedOrders = true) (hback : backB ops = true) {S : Type}
    (slot : Nat → Option Nat) (lo hi : Nat) (G : S → World → Prop) (Φ : Nat → S → Value → Prop) (H : Nat → S → Prop) (s0 : S) (h0 : G s0 w0.drew) (hH0 : ∀ k, k < ops.size → H k s0)
    (hslot : ∀ i s, slot i = some s → lo ≤ s ∧ s ≤ hi ∧ s < a0.tmps.size)
    (hinj : ∀ i j, i < ops.size → j < ops.size → i ≠ j → ∀ s, slot i = some s → slot j ≠ some s)
    (hstep : ∀ (i : Nat) (o : Oper), ops[i]? = some o → o.guard = none ∧ o.dst = slot i ∧ ∀ (Up : Nat → Prop) (s : S) (w : World) (a : Act), (∀ k o', ops[k]? = some o' → Up k → ∀ e ∈ o'.after, Region.binds .any e = true → Up e.on) → (∀ e ∈ o.after, Region.binds .any e = true → Up e.on) → G s w → H i s → Fr a0 lo hi a →
      (∀ e ∈ o.after, Region.binds .any e = true → ∃ x, (∀ t, slot e.on = some t → a.tmps[t]? = some x) ∧ Φ e.on s x) →
      ∀ Kc : Act → World → Prop, (∀ v w' s', G s' w' → Φ i s' v → (∀ k x, k ≠ i → Φ k s x → Φ k s' x) → (∀ k, k ≠ i → ¬ Up k → H k s → H k s') → Kc (a.put (slot i) v) w') → wpOp P ops Q i Kc a w)
    (hend : ∀ (a : Act) (w : World) (s : S), G s w → Fr a0 lo hi a → (∀ k, k < ops.size → ∃ x, (∀ t, slot k = some t → a.tmps[t]? = some x) ∧ Φ k s x) → Q .normal a w) : (Code.region id ops true).wp P Q a0 w0 := by
  refine wp_region_inv hm hback (fun l a w => ∃ s, G s w ∧ Fr a0 lo hi a ∧ (∀ k, k < ops.size → l.getD k false = true → ∃ x, (∀ t, slot k = some t → a.tmps[t]? = some x) ∧ Φ k s x) ∧ (∀ k, k < ops.size → l.getD k false = false → H k s) ∧ ∀ k o', ops[k]? = some o' → l.getD k false = true → ∀ e ∈ o'.after, Region.binds .any e = true → l.getD e.on false = true) ⟨s0, h0, ⟨rfl, rfl, fun _ _ => rfl⟩, fun k _ hk => ?_, fun k hk _ => hH0 k hk, fun k _ _ hk => ?_⟩ ?_ ?_
  · exfalso
    simp only [Array.getD_eq_getD_getElem?, Array.getElem?_replicate] at hk
    split at hk <;> simp at hk
  · exfalso
    simp only [Array.getD_eq_getD_getElem?, Array.getElem?_replicate] at hk
    split at hk <;> simp at hk
  · rintro l a w hl ⟨s, hG, hF, hU, hD, hCl⟩ i o ho hun haft
    obtain ⟨_, _, hrest⟩ := hstep i o ho
    have hio : i < ops.size := (Array.getElem?_eq_some_iff.1 ho).1
    have hil : l.getD i false = false := by
      have : i < l.size := by omega
      simpa [Array.getD, this] using hun
    have hback' : ∀ e ∈ o.after, Region.binds .any e = true → e.on < ops.size := by
      intro e he hb
      have hb1 := List.all_eq_true.1 hback i (List.mem_range.2 hio)
      rw [ho] at hb1
      simp only [Option.map_some, Option.getD_some] at hb1
      have hb2 := Array.all_eq_true_iff_forall_mem.1 hb1 e he
      simp only [hb, Bool.not_true, Bool.false_or, decide_eq_true_eq] at hb2
      omega
    refine hrest (fun k => l.getD k false = true) s w a hCl haft hG (hD i hio hil) hF (fun e he hb => hU e.on (hback' e he hb) (haft e he hb)) _ ?_
    intro v w' s' hG' hΦ hkeep hH'
    show ∃ s, G s w' ∧ Fr a0 lo hi (a.put (slot i) v) ∧ (∀ k, k < ops.size → (l.setIfInBounds i true).getD k false = true → ∃ x, (∀ t, slot k = some t → (a.put (slot i) v).tmps[t]? = some x) ∧ Φ k s x) ∧ (∀ k, k < ops.size → (l.setIfInBounds i true).getD k false = false → H k s) ∧ ∀ k o', ops[k]? = some o' → (l.setIfInBounds i true).getD k false = true → ∀ e ∈ o'.after, Region.binds .any e = true → (l.setIfInBounds i true).getD e.on false = true
    · refine ⟨s', hG', hF.put (fun t ht => ⟨(hslot i t ht).1, (hslot i t ht).2.1⟩) v, ?_, ?_, ?_⟩
      · intro k hk hlk
        by_cases hki : k = i
        · subst hki
          refine ⟨v, fun t ht => ?_, hΦ⟩
          rw [ht]
          exact put_at (by have := (hslot k t ht).2.2; have := hF.1; omega)
        · rw [getD_set_ne false (Ne.symm hki)] at hlk
          obtain ⟨x, h1, h2⟩ := hU k hk hlk
          refine ⟨x, fun t ht => ?_, hkeep k x hki h2⟩
          cases hsi : slot i with
          | none => exact h1 t ht
          | some d =>
            rw [put_ne (by rintro rfl; exact hinj k i hk hio hki t ht hsi)]
            exact h1 t ht
      · intro k hk hlk
        have hki : k ≠ i := by
          rintro rfl
          have : k < l.size := by omega
          simp [Array.getD, this] at hlk
        rw [getD_set_ne false (Ne.symm hki)] at hlk
        refine hH' k hki (fun hup => ?_) (hD k hk hlk)
        have hup' : l.getD k false = true := hup
        rw [hlk] at hup'
        cases hup'
      · intro k o' hk' hlk e he hb
        have hup : l.getD e.on false = true := by
          by_cases hki : k = i
          · subst hki
            rw [ho] at hk'
            cases hk'
            exact haft e he hb
          · rw [getD_set_ne false (Ne.symm hki)] at hlk
            exact hCl k o' hk' hlk e he hb
        by_cases hei : e.on = i
        · rw [hei] at hup
          rw [hil] at hup
          cases hup
        · rw [getD_set_ne false (Ne.symm hei)]
          exact hup
  · rintro l a w hall ⟨s, hG, hF, hU, _, _⟩
    exact hend a w s hG hF (fun k hk => hU k hk (hall k hk))


end Go.Proofs.Ybulkuoc
