/- row[i] = f(row[i], x), where the statement draws its order. -/
import Derived.Test.YbulkuocLeads
namespace Go.Proofs.Ybulkuoc
open Go.RowKit

theorem wp_region_ghost2 {P : Program} {id : Nat} {ops : Array Oper} {Q : Exit → Act → World → Prop} {a0 : Act} {w0 : World} (hm : P.follows .mixedOrders = true) (hback : backB ops = true) {S : Type}
    (slot : Nat → Option Nat) (lo hi : Nat) (G : S → World → Prop) (Φ : Nat → S → Value → Prop) (H : Nat → S → Prop) (s0 : S) (h0 : G s0 w0.drew) (hH0 : ∀ k, k < ops.size → H k s0)
    (hslot : ∀ i s, slot i = some s → lo ≤ s ∧ s ≤ hi ∧ s < a0.tmps.size)
    (hinj : ∀ i j, i < ops.size → j < ops.size → i ≠ j → ∀ s, slot i = some s → slot j ≠ some s)
    (hstep : ∀ (i : Nat) (o : Oper), ops[i]? = some o → o.guard = none ∧ o.dst = slot i ∧ ∀ (s : S) (w : World) (a : Act), G s w → H i s → Fr a0 lo hi a →
      (∀ e ∈ o.after, Region.binds .any e = true → ∃ x, (∀ t, slot e.on = some t → a.tmps[t]? = some x) ∧ Φ e.on s x) →
      ∀ Kc : Act → World → Prop, (∀ v w' s', G s' w' → Φ i s' v → (∀ k x, k ≠ i → Φ k s x → Φ k s' x) → (∀ k, k ≠ i → (∀ e ∈ o.after, Region.binds .any e = true → e.on ≠ k) → H k s → H k s') → Kc (a.put (slot i) v) w') → wpOp P ops Q i Kc a w)
    (hend : ∀ (a : Act) (w : World) (s : S), G s w → Fr a0 lo hi a → (∀ k, k < ops.size → ∃ x, (∀ t, slot k = some t → a.tmps[t]? = some x) ∧ Φ k s x) → Q .normal a w) : (Code.region id ops true).wp P Q a0 w0 := by
  refine wp_region_inv hm hback (fun l a w => ∃ s, G s w ∧ Fr a0 lo hi a ∧ (∀ k, k < ops.size → l.getD k false = true → ∃ x, (∀ t, slot k = some t → a.tmps[t]? = some x) ∧ Φ k s x) ∧ ∀ k, k < ops.size → l.getD k false = false → H k s) ⟨s0, h0, ⟨rfl, rfl, fun _ _ => rfl⟩, fun k _ hk => ?_, fun k hk _ => hH0 k hk⟩ ?_ ?_
  · exfalso
    simp only [Array.getD_eq_getD_getElem?, Array.getElem?_replicate] at hk
    split at hk <;> simp at hk
  · rintro l a w hl ⟨s, hG, hF, hU, hD⟩ i o ho hun haft
    obtain ⟨_, _, hrest⟩ := hstep i o ho
    have hio : i < ops.size := (Array.getElem?_eq_some_iff.1 ho).1
    have hil : l.getD i false = false := by
      have : i < l.size := by omega
      simpa [Array.getD, this] using hun
    have hback' : ∀ e ∈ o.after, Region.binds .any e = true → e.on < ops.size := by
      intro e he hb
      have hb1 := List.all_eq_true.1 hback i (List.mem_range.2 hio)
      rw [ho] at hb1
      simp only [Option.map_some, Option.getD_some] at hb1
      have hb2 := Array.all_eq_true_iff_forall_mem.1 hb1 e he
      simp only [hb, Bool.not_true, Bool.false_or, decide_eq_true_eq] at hb2
      omega
    refine hrest s w a hG (hD i hio hil) hF (fun e he hb => hU e.on (hback' e he hb) (haft e he hb)) _ ?_
    intro v w' s' hG' hΦ hkeep hH'
    show ∃ s, G s w' ∧ Fr a0 lo hi (a.put (slot i) v) ∧ (∀ k, k < ops.size → (l.setIfInBounds i true).getD k false = true → ∃ x, (∀ t, slot k = some t → (a.put (slot i) v).tmps[t]? = some x) ∧ Φ k s x) ∧ ∀ k, k < ops.size → (l.setIfInBounds i true).getD k false = false → H k s
    · refine ⟨s', hG', hF.put (fun t ht => ⟨(hslot i t ht).1, (hslot i t ht).2.1⟩) v, ?_, ?_⟩
      · intro k hk hlk
        by_cases hki : k = i
        · subst hki
          refine ⟨v, fun t ht => ?_, hΦ⟩
          rw [ht]
          exact put_at (by have := (hslot k t ht).2.2; have := hF.1; omega)
        · rw [getD_set_ne false (Ne.symm hki)] at hlk
          obtain ⟨x, h1, h2⟩ := hU k hk hlk
          refine ⟨x, fun t ht => ?_, hkeep k x hki h2⟩
          cases hsi : slot i with
          | none => exact h1 t ht
          | some d =>
            rw [put_ne (by rintro rfl; exact hinj k i hk hio hki t ht hsi)]
            exact h1 t ht
      · intro k hk hlk
        have hki : k ≠ i := by
          rintro rfl
          have : k < l.size := by omega
          simp [Array.getD, this] at hlk
        rw [getD_set_ne false (Ne.symm hki)] at hlk
        refine hH' k hki (fun e he hb hek => ?_) (hD k hk hlk)
        have := haft e he hb
        rw [hek, hlk] at this
        cases this
  · rintro l a w hall ⟨s, hG, hF, hU, hD⟩
    exact hend a w s hG hF (fun k hk => hU k hk (hall k hk))


/-- A call of a Go function, as an operation of a region. -/
theorem wpOp_enter {P : Program} {ops : Array Oper} {Q : Exit → Act → World → Prop} {i : Nat} {o : Oper} {K : Act → World → Prop} {a : Act} {w : World} {d : Option Tmp} {f : FuncId} {args : Array Value} (ho : ops[i]? = some o) (hg : o.guard = none) (hd : o.dst = d)
    (hrun : (execOp a.eval o).run P w = .ok (.enter f args) w) (h : Calls P f args w fun e w' => ∃ v, e = .returned v ∧ K (a.put d v) w') : wpOp P ops Q i K a w := by
  subst hd
  unfold wpOp
  simp only [ho]
  rw [if_pos (by simp [Region.wanted, hg])]
  left
  unfold Oper.wp
  rw [hrun, Oper.upon_enter]
  refine h.mono ?_
  rintro e w' ⟨v, rfl, hk⟩
  exact hk

/-- What each operation of such a region is. -/
structure EKinds where
  val : Nat → Option Value
  slot : Nat → Option Nat
  il : Nat
  ib : Nat
  ic : Nat
  is : Nat

/-- What stands through the region. -/
structure ElSt (c : Tc) (v : Tv) (bx : Nat) (w0 : World) (K' : Nat → Option Ent) (w : World) : Prop where
  st : St c K' v w
  box : Blk w bx #[.pointer (some ⟨c.C, 0, none⟩)] 28
  bel : Below c.base w0 w
  size : c.base ≤ w.heap.size

def ElOp (c : Tc) (v : Tv) (bx : Nat) (w0 : World) (k : EKinds) (a0 : Act) (lo hi : Nat) (ops : Array Oper) (Q : Exit → Act → World → Prop) (kp T p gO : Nat) (l l' : List Nat) (q : Nat) (x : Value) (i : Nat) (o : Oper) : Prop :=
  (∃ z, k.val i = some z ∧ i ≠ k.il ∧ i ≠ k.ib ∧ i ≠ k.ic ∧ i ≠ k.is ∧ ∀ a w K', Fr a0 lo hi a → Pre k.val k.slot o a → ElSt c v bx w0 K' w → (execOp a.eval o).run Yba.prog w = .ok (.value z) w)
  ∨ (i = k.il ∧ k.val i = none ∧ ∀ a w, Fr a0 lo hi a → Pre k.val k.slot o a → w.cell? ⟨gO, p, none⟩ = some x → (execOp a.eval o).run Yba.prog w = .ok (.value x) w)
  ∨ (i = k.ib ∧ k.val i = none ∧ ∀ a w, Fr a0 lo hi a → Pre k.val k.slot o a → (execOp a.eval o).run Yba.prog w = .ok (.value (.slice (some ⟨w.heap.size, 0, none⟩) 1 1)) (w.alloc (.cells #[.int .i64 (q : Int)] 3)))
  ∨ (i = k.ic ∧ k.val i = none ∧ ∃ e1 e2 s1 s2, e1 ∈ o.after ∧ Region.binds .any e1 = true ∧ e1.on = k.il ∧ k.slot k.il = some s1 ∧ e2 ∈ o.after ∧ Region.binds .any e2 = true ∧ e2.on = k.ib ∧ k.slot k.ib = some s2 ∧ ∀ a w K' b, Fr a0 lo hi a → Pre k.val k.slot o a → ElSt c v bx w0 K' w → K' kp = some ⟨3, 1, l.length, x, ints l⟩ → K' T = some ⟨3, 1, 1, .slice (some ⟨b, 0, none⟩) 1 1, [.int .i64 (q : Int)]⟩ → a.tmps[s1]? = some x → a.tmps[s2]? = some (.slice (some ⟨b, 0, none⟩) 1 1) →
      ∀ Kc : Act → World → Prop, (∀ g cc w', Below c.base w w' → w.grownBy w' x.ownBlock → St c (upd K' kp ⟨3, 1, l.length + 1, .slice (some ⟨g, 0, none⟩) (l.length + 1) cc, ints l'⟩) v w' → Kc (a.put (k.slot i) (.slice (some ⟨g, 0, none⟩) (l.length + 1) cc)) w') → wpOp Yba.prog ops Q i Kc a w)
  ∨ (i = k.is ∧ k.val i = none ∧ k.slot i = none ∧ (∃ e ∈ o.after, Region.binds .any e = true ∧ e.on = k.il) ∧ ∃ e1 s1, e1 ∈ o.after ∧ Region.binds .any e1 = true ∧ e1.on = k.ic ∧ k.slot k.ic = some s1 ∧ ∀ a w b n cc y, Fr a0 lo hi a → Pre k.val k.slot o a → a.tmps[s1]? = some (.slice b n cc) → w.cell? ⟨gO, p, none⟩ = some y → w.frozen? ⟨gO, p, none⟩ = false → (execOp a.eval o).run Yba.prog w = .ok .skip (w.setCell ⟨gO, p, none⟩ (.slice b n cc)))

theorem wp_elem {id : Nat} {ops : Array Oper} {Q : Exit → Act → World → Prop} {a0 : Act} {w0 : World} {c : Tc} {K : Nat → Option Ent} {v : Tv} (hm : Yba.prog.follows .mixedOrders = true) (hback : backB ops = true) (h : St c K v w0) (hb : c.base ≤ w0.heap.size) (bx : Nat) (hbx : Blk w0 bx #[.pointer (some ⟨c.C, 0, none⟩)] 28)
    (R kp T M p gO cO : Nat) (vs : List Value) (l l' : List Nat) (q : Nat) (x : Value) (hR : K R = some ⟨26, 1, M, .slice (some ⟨gO, 0, none⟩) M cO, vs⟩) (hvp : vs[p]? = some x) (hkp : K kp = some ⟨3, 1, l.length, x, ints l⟩) (hne : kp ≠ T ∧ kp ≠ R ∧ T ≠ R)
    (k : EKinds) (lo hi : Nat) (hslot : ∀ i s, k.slot i = some s → lo ≤ s ∧ s ≤ hi ∧ s < a0.tmps.size) (hinj : ∀ i j, i < ops.size → j < ops.size → i ≠ j → ∀ s, k.slot i = some s → k.slot j ≠ some s) (hd4 : k.il ≠ k.ib ∧ k.il ≠ k.ic ∧ k.il ≠ k.is ∧ k.ib ≠ k.ic ∧ k.ib ≠ k.is ∧ k.ic ≠ k.is) (hiz : k.is < ops.size)
    (hop : ∀ i o, ops[i]? = some o → o.guard = none ∧ o.dst = k.slot i ∧ ElOp c v bx w0 k a0 lo hi ops Q kp T p gO l l' q x i o)
    (hend : ∀ a w K', Fr a0 lo hi a → ElSt c v bx w0 K' w → (∀ n, n ≠ R → n ≠ kp → n ≠ T → K' n = K n) → (∃ g cc, K' kp = some ⟨3, 1, l.length + 1, .slice (some ⟨g, 0, none⟩) (l.length + 1) cc, ints l'⟩ ∧ K' R = some ⟨26, 1, M, .slice (some ⟨gO, 0, none⟩) M cO, vs.set p (.slice (some ⟨g, 0, none⟩) (l.length + 1) cc)⟩) → Q .normal a w) : (Code.region id ops true).wp Yba.prog Q a0 w0 := by
  obtain ⟨d1, d2, d3, d4, d5, d6⟩ := hd4
  obtain ⟨n1, n2, n3⟩ := hne
  refine wp_region_ghost2 hm hback (S := Nat → Option Ent) k.slot lo hi
    (fun s w => ElSt c v bx w0 s w ∧ ∀ n, n ≠ R → n ≠ kp → n ≠ T → s n = K n)
    (fun i s y => (∀ z, k.val i = some z → y = z) ∧ (i = k.il → y = x) ∧ (i = k.ib → ∃ b, y = .slice (some ⟨b, 0, none⟩) 1 1 ∧ s T = some ⟨3, 1, 1, y, [.int .i64 (q : Int)]⟩) ∧ (i = k.ic → ∃ g cc, y = .slice (some ⟨g, 0, none⟩) (l.length + 1) cc ∧ s kp = some ⟨3, 1, l.length + 1, y, ints l'⟩) ∧ (i = k.is → ∃ g cc, s kp = some ⟨3, 1, l.length + 1, .slice (some ⟨g, 0, none⟩) (l.length + 1) cc, ints l'⟩ ∧ s R = some ⟨26, 1, M, .slice (some ⟨gO, 0, none⟩) M cO, vs.set p (.slice (some ⟨g, 0, none⟩) (l.length + 1) cc)⟩))
    (fun i s => (i = k.ic → s kp = K kp) ∧ (i = k.is → s R = K R) ∧ (i = k.il → s R = K R)) K ⟨⟨h.drew, hbx, (Below.refl _ _).drew, hb⟩, fun _ _ _ _ => rfl⟩ (fun _ _ => ⟨fun _ => rfl, fun _ => rfl, fun _ => rfl⟩) hslot hinj ?_ ?_
  · intro i o ho
    obtain ⟨hg, hd, hk⟩ := hop i o ho
    refine ⟨hg, hd, ?_⟩
    rintro K1 w a ⟨hst, hfr⟩ ⟨hH1, hH2, hH3⟩ hF haf Kc hKc
    have hpre : Pre k.val k.slot o a := by
      intro e he hb z s hz hs
      obtain ⟨y, h1, h2⟩ := haf e he hb
      rw [h1 s hs, h2.1 z hz]
    rcases hk with ⟨z, hz, i1, i2, i3, i4, hrun⟩ | ⟨hi, hz, hrun⟩ | ⟨hi, hz, hrun⟩ | ⟨hi, hz, hrun⟩ | ⟨hi, hz, hsl, hlds, hrun⟩
    · refine wpOp_val ho hg hd (hrun a w K1 hF hpre hst) (hKc z w K1 ⟨hst, hfr⟩ ?_ (fun _ _ _ h => h) (fun _ _ _ h => h))
      exact ⟨fun y hy => Option.some.inj (hz.symm.trans hy), fun e => absurd e i1, fun e => absurd e i2, fun e => absurd e i3, fun e => absurd e i4⟩
    · have hRr := (hH3 hi).trans hR
      refine wpOp_val ho hg hd (hrun a w hF hpre (hst.st.sep.cell hRr hvp)) (hKc x w K1 ⟨hst, hfr⟩ ?_ (fun _ _ _ h => h) (fun _ _ _ h => h))
      exact ⟨fun y hy => by (rw [hz] at hy; cases hy), fun _ => rfl, fun e => absurd (hi.symm.trans e) d1, fun e => absurd (hi.symm.trans e) d2, fun e => absurd (hi.symm.trans e) d3⟩
    · have hs2 : Sep (w.alloc (.cells #[.int .i64 (q : Int)] 3)) c.base (upd K1 T ⟨3, 1, 1, .slice (some ⟨w.heap.size, 0, none⟩) 1 1, [.int .i64 (q : Int)]⟩) := hst.st.sep.row 3 T 1 #[.int .i64 (q : Int)] rfl hst.size (by unfold maxLen; omega) _ rfl
      have hst2 : St c (upd K1 T ⟨3, 1, 1, .slice (some ⟨w.heap.size, 0, none⟩) 1 1, [.int .i64 (q : Int)]⟩) v (w.alloc (.cells #[.int .i64 (q : Int)] 3)) := hst.st.grow hs2 (upd_ty hst.st.ty _ _ ty3) (r := none) ⟨rfl, rfl, rfl, by simp, fun b hb' _ => Below.heap_alloc _ _ _ hb'⟩ (fun b e => by cases e)
      refine wpOp_val ho hg hd (hrun a w hF hpre) (hKc _ _ (upd K1 T ⟨3, 1, 1, .slice (some ⟨w.heap.size, 0, none⟩) 1 1, [.int .i64 (q : Int)]⟩) ⟨⟨hst2, hst.box.alloc _, hst.bel.alloc hst.size _, by have := hst.size; simp; omega⟩, fun n a1 a2 a3 => (upd_other _ _ a3).trans (hfr n a1 a2 a3)⟩ ?_ ?_ ?_)
      · exact ⟨fun y hy => by (rw [hz] at hy; cases hy), fun e => absurd (e.symm.trans hi) d1, fun _ => ⟨_, rfl, upd_same _ _ _⟩, fun e => absurd (hi.symm.trans e) d4, fun e => absurd (hi.symm.trans e) d5⟩
      · rintro j y hj ⟨p1, p2, p3, p4, p5⟩
        refine ⟨p1, p2, fun e => absurd (e.trans hi.symm) hj, fun e => ?_, fun e => ?_⟩
        · obtain ⟨g, cc, e1, e2⟩ := p4 e
          exact ⟨g, cc, e1, (upd_other _ _ n1).trans e2⟩
        · obtain ⟨g, cc, e1, e2⟩ := p5 e
          exact ⟨g, cc, (upd_other _ _ n1).trans e1, (upd_other _ _ (Ne.symm n3)).trans e2⟩
      · rintro j hj _ ⟨p1, p2, p3⟩
        exact ⟨fun e => (upd_other _ _ n1).trans (p1 e), fun e => (upd_other _ _ (Ne.symm n3)).trans (p2 e), fun e => (upd_other _ _ (Ne.symm n3)).trans (p3 e)⟩
    · obtain ⟨e1, e2, s1, s2, m1, b1, o1, t1, m2, b2, o2, t2, hrun⟩ := hrun
      obtain ⟨x1, q1, q2⟩ := haf e1 m1 b1
      obtain ⟨x2, q3, q4⟩ := haf e2 m2 b2
      have hx1 := q2.2.1 o1
      subst hx1
      obtain ⟨b, hbv, hrowT⟩ := q4.2.2.1 o2
      subst hbv
      have hrow := (hH1 hi).trans hkp
      refine hrun a w K1 b hF hpre hst hrow hrowT (q1 s1 (by rw [o1]; exact t1)) (q3 s2 (by rw [o2]; exact t2)) Kc ?_
      intro g cc w2 hbl2 hg2 hst2
      have hbox2 : Blk w2 bx #[.pointer (some ⟨c.C, 0, none⟩)] 28 := (hg2.block _ hst.box.lt (fun e => hst.st.sep.neTy hst.box hrow (show (3 : Nat) ≠ 28 by decide) e.symm)).trans hst.box
      refine hKc _ _ _ ⟨⟨hst2, hbox2, hst.bel.trans hbl2, by have := hst.size; have := hbl2.size; omega⟩, fun n a1 a2 a3 => (upd_other _ _ a2).trans (hfr n a1 a2 a3)⟩ ?_ ?_ ?_
      · exact ⟨fun y hy => by (rw [hz] at hy; cases hy), fun e => absurd (e.symm.trans hi) d2, fun e => absurd (e.symm.trans hi) d4, fun _ => ⟨g, cc, rfl, upd_same _ _ _⟩, fun e => absurd (hi.symm.trans e) d6⟩
      · rintro j y hj ⟨p1, p2, p3, p4, p5⟩
        refine ⟨p1, p2, fun e => ?_, fun e => absurd (e.trans hi.symm) hj, fun e => ?_⟩
        · obtain ⟨b', e1, e2⟩ := p3 e
          exact ⟨b', e1, (upd_other _ _ (Ne.symm n1)).trans e2⟩
        · obtain ⟨g', cc', e1, e2⟩ := p5 e
          have e3 := hrow.symm.trans e1
          simp at e3
      · rintro j hj _ ⟨p1, p2, p3⟩
        exact ⟨fun e => absurd (e.trans hi.symm) hj, fun e => (upd_other _ _ (Ne.symm n2)).trans (p2 e), fun e => (upd_other _ _ (Ne.symm n2)).trans (p3 e)⟩
    · obtain ⟨e1, s1, m1, b1, o1, t1, hrun⟩ := hrun
      obtain ⟨x1, q1, q2⟩ := haf e1 m1 b1
      obtain ⟨g, cc, hx1, hrow⟩ := q2.2.2.2.1 o1
      subst hx1
      have hRr := (hH2 hi).trans hR
      have hRc := hst.st.sep.cell hRr hvp
      have hs2 := hst.st.sep.put hRr (j := p) (.slice (some ⟨g, 0, none⟩) (l.length + 1) cc)
      have hgb := (hst.st.sep.lt hRr gO rfl).1
      have hst2 := hst.st.grow hs2 (upd_ty hst.st.ty _ _ ty26) (r := some gO) ⟨rfl, rfl, rfl, by simp, fun b _ hb => Below.heap_setCell _ _ _ _ (fun e => hb (by rw [e]))⟩ (fun b hb => ⟨R, _, hRr, hb⟩)
      have hbox2 : Blk (w.setCell ⟨gO, p, none⟩ (.slice (some ⟨g, 0, none⟩) (l.length + 1) cc)) bx #[.pointer (some ⟨c.C, 0, none⟩)] 28 := hst.box.other (fun e => hst.st.sep.neTy hst.box hRr (show (26 : Nat) ≠ 28 by decide) (by rw [e]; rfl)) _
      refine wpOp_skip ho hg hd (hrun a w _ _ _ _ hF hpre (q1 s1 (by rw [o1]; exact t1)) hRc (hst.st.sep.free hRr p)) ?_
      have := hKc undef _ (upd K1 R ⟨26, 1, M, .slice (some ⟨gO, 0, none⟩) M cO, vs.set p (.slice (some ⟨g, 0, none⟩) (l.length + 1) cc)⟩) ⟨⟨hst2, hbox2, hst.bel.setCell hgb _, by simpa using hst.size⟩, fun n a1 a2 a3 => (upd_other _ _ a1).trans (hfr n a1 a2 a3)⟩ ?_ ?_ ?_
      · exact this
      · exact ⟨fun y hy => by (rw [hz] at hy; cases hy), fun e => absurd (e.symm.trans hi) d3, fun e => absurd (e.symm.trans hi) d5, fun e => absurd (e.symm.trans hi) d6, fun _ => ⟨g, cc, (upd_other _ _ n2).trans hrow, upd_same _ _ _⟩⟩
      · rintro j y hj ⟨p1, p2, p3, p4, p5⟩
        refine ⟨p1, p2, fun e => ?_, fun e => ?_, fun e => absurd (e.trans hi.symm) hj⟩
        · obtain ⟨b', e1, e2⟩ := p3 e
          exact ⟨b', e1, (upd_other _ _ n3).trans e2⟩
        · obtain ⟨g', cc', e1, e2⟩ := p4 e
          exact ⟨g', cc', e1, (upd_other _ _ n2).trans e2⟩
      · rintro j hj hno ⟨p1, p2, p3⟩
        refine ⟨fun e => (upd_other _ _ n2).trans (p1 e), fun e => absurd (e.trans hi.symm) hj, fun e => ?_⟩
        obtain ⟨ed, he, hb', hq⟩ := hlds
        exact absurd (hq.trans e.symm) (hno ed he hb')
  · rintro a w K1 ⟨hst, hfr⟩ hF hU
    obtain ⟨y, _, hy⟩ := hU k.is hiz
    exact hend a w K1 hF hst hfr (hy.2.2.2.2 rfl)
end Go.Proofs.Ybulkuoc
