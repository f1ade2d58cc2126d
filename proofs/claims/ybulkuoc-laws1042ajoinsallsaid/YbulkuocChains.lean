/- A region that draws its order and holds several appends, each stored back: one relation over a state beside the world. -/
import Derived.Test.YbulkuocPlaces
import Derived.Test.YbulkuocRegInv
namespace Go.Proofs.Ybulkuoc
open Go.RowKit

theorem put_at {a : Act} {d : Nat} {v : Value} (h : d < a.tmps.size) : (a.put (some d) v).tmps[d]? = some v := by simp [Act.put, h]
theorem eval_at {a : Act} {d : Nat} {v : Value} (h : a.tmps[d]? = some v) : a.eval (.tmp d) = v := by simp [Act.eval, h]
theorem put_ne {a : Act} {d s : Nat} {v : Value} (h : s ≠ d) : (a.put (some d) v).tmps[s]? = a.tmps[s]? := by simp [Act.put, Array.getElem?_setIfInBounds_ne (Ne.symm h)]

/-- What stands of the frame. -/
def Fr (a0 : Act) (lo hi : Nat) (a : Act) : Prop := a.tmps.size = a0.tmps.size ∧ a.defers = a0.defers ∧ ∀ s, (s < lo ∨ hi < s) → a.tmps[s]? = a0.tmps[s]?

theorem Fr.put {a0 a : Act} {lo hi : Nat} (h : Fr a0 lo hi a) {d : Option Nat} (hd : ∀ s, d = some s → lo ≤ s ∧ s ≤ hi) (v : Value) : Fr a0 lo hi (a.put d v) := by
  cases d with
  | none => exact h
  | some d =>
    obtain ⟨h1, h2, h3⟩ := h
    refine ⟨by simp [Act.put, h1], by simp [Act.put, h2], fun s hs => ?_⟩
    have := hd d rfl
    rw [put_ne (by omega)]
    exact h3 s hs

theorem wp_region_ghost {P : Program} {id : Nat} {ops : Array Oper} {Q : Exit → Act → World → Prop} {a0 : Act} {w0 : World} (hm : P.follows .mixedOrders = true) (hback : backB ops = true) {S : Type}
    (slot : Nat → Option Nat) (lo hi : Nat) (G : S → World → Prop) (Φ : Nat → S → Value → Prop) (H : Nat → S → Prop) (s0 : S) (h0 : G s0 w0.drew) (hH0 : ∀ k, k < ops.size → H k s0)
    (hslot : ∀ i s, slot i = some s → lo ≤ s ∧ s ≤ hi ∧ s < a0.tmps.size)
    (hinj : ∀ i j, i < ops.size → j < ops.size → i ≠ j → ∀ s, slot i = some s → slot j ≠ some s)
    (hstep : ∀ (i : Nat) (o : Oper), ops[i]? = some o → o.guard = none ∧ o.dst = slot i ∧ ∀ (s : S) (w : World) (a : Act), G s w → H i s → Fr a0 lo hi a →
      (∀ e ∈ o.after, Region.binds .any e = true → ∃ x, (∀ t, slot e.on = some t → a.tmps[t]? = some x) ∧ Φ e.on s x) →
      ∃ v w' s', ((execOp a.eval o).run P w = .ok (.value v) w' ∨ ((execOp a.eval o).run P w = .ok .skip w' ∧ slot i = none)) ∧ G s' w' ∧ Φ i s' v ∧ (∀ k x, k ≠ i → Φ k s x → Φ k s' x) ∧ (∀ k, k ≠ i → (∀ e ∈ o.after, Region.binds .any e = true → e.on ≠ k) → H k s → H k s'))
    (hend : ∀ (a : Act) (w : World) (s : S), G s w → Fr a0 lo hi a → (∀ k, k < ops.size → ∃ x, (∀ t, slot k = some t → a.tmps[t]? = some x) ∧ Φ k s x) → Q .normal a w) : (Code.region id ops true).wp P Q a0 w0 := by
  refine wp_region_inv hm hback (fun l a w => ∃ s, G s w ∧ Fr a0 lo hi a ∧ (∀ k, k < ops.size → l.getD k false = true → ∃ x, (∀ t, slot k = some t → a.tmps[t]? = some x) ∧ Φ k s x) ∧ ∀ k, k < ops.size → l.getD k false = false → H k s) ⟨s0, h0, ⟨rfl, rfl, fun _ _ => rfl⟩, fun k _ hk => ?_, fun k hk _ => hH0 k hk⟩ ?_ ?_
  · exfalso
    simp only [Array.getD_eq_getD_getElem?, Array.getElem?_replicate] at hk
    split at hk <;> simp at hk
  · rintro l a w hl ⟨s, hG, hF, hU, hD⟩ i o ho hun haft
    obtain ⟨hg, hd, hrest⟩ := hstep i o ho
    have hio : i < ops.size := (Array.getElem?_eq_some_iff.1 ho).1
    have hil : l.getD i false = false := by
      have : i < l.size := by omega
      simpa [Array.getD, this] using hun
    have hback' : ∀ e ∈ o.after, Region.binds .any e = true → e.on < ops.size := by
      intro e he hb
      have hb1 := List.all_eq_true.1 hback i (List.mem_range.2 hio)
      rw [ho] at hb1
      simp only [Option.map_some, Option.getD_some] at hb1
      have hb2 := Array.all_eq_true_iff_forall_mem.1 hb1 e he
      simp only [hb, Bool.not_true, Bool.false_or, decide_eq_true_eq] at hb2
      omega
    obtain ⟨v, w', s', hrun, hG', hΦ, hkeep, hH'⟩ := hrest s w a hG (hD i hio hil) hF (fun e he hb => hU e.on (hback' e he hb) (haft e he hb))
    have hput : ∃ s, G s w' ∧ Fr a0 lo hi (a.put (slot i) v) ∧ (∀ k, k < ops.size → (l.setIfInBounds i true).getD k false = true → ∃ x, (∀ t, slot k = some t → (a.put (slot i) v).tmps[t]? = some x) ∧ Φ k s x) ∧ ∀ k, k < ops.size → (l.setIfInBounds i true).getD k false = false → H k s := by
      refine ⟨s', hG', hF.put (fun t ht => ⟨(hslot i t ht).1, (hslot i t ht).2.1⟩) v, ?_, ?_⟩
      · intro k hk hlk
        by_cases hki : k = i
        · subst hki
          refine ⟨v, fun t ht => ?_, hΦ⟩
          rw [ht]
          exact put_at (by have := (hslot k t ht).2.2; have := hF.1; omega)
        · rw [getD_set_ne false (Ne.symm hki)] at hlk
          obtain ⟨x, h1, h2⟩ := hU k hk hlk
          refine ⟨x, fun t ht => ?_, hkeep k x hki h2⟩
          cases hsi : slot i with
          | none => exact h1 t ht
          | some d =>
            rw [put_ne (by rintro rfl; exact hinj k i hk hio hki t ht hsi)]
            exact h1 t ht
      · intro k hk hlk
        have hki : k ≠ i := by
          rintro rfl
          have : k < l.size := by omega
          simp [Array.getD, this] at hlk
        rw [getD_set_ne false (Ne.symm hki)] at hlk
        refine hH' k hki (fun e he hb hek => ?_) (hD k hk hlk)
        have := haft e he hb
        rw [hek, hlk] at this
        cases this
    rcases hrun with hrun | ⟨hrun, hsn⟩
    · exact wpOp_val ho hg hd hrun hput
    · refine wpOp_skip ho hg hd hrun ?_
      rw [hsn] at hput ⊢
      exact hput
  · rintro l a w hall ⟨s, hG, hF, hU, hD⟩
    exact hend a w s hG hF (fun k hk => hU k hk (hall k hk))

/-- A store into reachability. -/
theorem St.setB {c : Tc} {K : Nat → Option Ent} {v v' : Tv} {w : World} (h : St c K v w) (i : Nat) (x : Value) (e : (#[v.reached, v.frm] : Array Value).setIfInBounds i x = #[v'.reached, v'.frm]) (e0 : thrOf c v' = thrOf c v) (e3 : v'.len = v.len) (e4 : v'.nxt = v.nxt) (e5 : v'.met = v.met) (e6 : v'.parked = v.parked) : St c K v' (w.setCell ⟨c.BT, i, none⟩ x) := by
  have k1 := h.hC.ne h.hBT (by decide)
  have k2 := h.hTT.ne h.hBT (by decide)
  have k3 := h.ha.ne h.hBT (by decide)
  have k4 := h.hp.ne h.hBT (by decide)
  refine ⟨h.sep.setCell (fun k y hk => h.sep.neTy h.hBT hk (h.ty k y hk).2.2.1) x, ?_, ?_, ?_, h.ha.other k3 x, h.hp.other k4 x, h.ty, h.lo⟩
  · rw [e0]; exact h.hC.other k1 x
  · rw [← e]; exact h.hBT.set i x
  · rw [e3, e4, e5, e6]; exact h.hTT.other k2 x
/-- A store into distances. -/
theorem St.setT {c : Tc} {K : Nat → Option Ent} {v v' : Tv} {w : World} (h : St c K v w) (i : Nat) (x : Value) (e : (#[.int .i64 1, .int .i64 0, v.len, v.nxt, v.met, .int .i64 0, v.parked] : Array Value).setIfInBounds i x = #[.int .i64 1, .int .i64 0, v'.len, v'.nxt, v'.met, .int .i64 0, v'.parked]) (e0 : thrOf c v' = thrOf c v) (e1 : v'.reached = v.reached) (e2 : v'.frm = v.frm) : St c K v' (w.setCell ⟨c.TT, i, none⟩ x) := by
  have k1 := h.hC.ne h.hTT (by decide)
  have k2 := h.hBT.ne h.hTT (by decide)
  have k3 := h.ha.ne h.hTT (by decide)
  have k4 := h.hp.ne h.hTT (by decide)
  refine ⟨h.sep.setCell (fun k y hk => h.sep.neTy h.hTT hk (h.ty k y hk).2.1) x, ?_, ?_, ?_, h.ha.other k3 x, h.hp.other k4 x, h.ty, h.lo⟩
  · rw [e0]; exact h.hC.other k1 x
  · rw [e1, e2]; exact h.hBT.other k2 x
  · rw [← e]; exact h.hTT.set i x

/-- A chain: a field's row, an element that is put behind it, the field's address. -/
structure Ch where
  r : Nat
  T : Nat
  st : TypeId
  e : TypeId
  n : Nat
  xs : List Value
  y : Value
  blk : Nat
  off : Nat
  get : Tv → Value
  set : Tv → Value → Tv

structure ChOk (c : Tc) (K : Nat → Option Ent) (v : Tv) (h : Ch) : Prop where
  row : K h.r = some ⟨h.e, 1, h.n, h.get v, h.xs⟩
  ty : TyOk h.e
  ul : Yba.prog.underlying h.st = some (.slice h.e)
  info : ∃ z bytes, (Yba.prog.info? h.e).map (fun i => (i.zero, i.size, i.bytes)) = some (some z, 1, bytes) ∧ z.cells.size = 1 ∧ bytes ≤ 64
  n1 : h.n + 1 ≤ 1000000
  y1 : h.y.oneCell' = true
  store : ∀ K v w x, St c K v w → St c K (h.set v x) (w.setCell ⟨h.blk, h.off, none⟩ x)
  cell : ∀ K v w, St c K v w → w.cell? ⟨h.blk, h.off, none⟩ = some (h.get v) ∧ w.frozen? ⟨h.blk, h.off, none⟩ = false ∧ c.base ≤ h.blk
  gs : ∀ v x, h.get (h.set v x) = x

/-- What is bound before o, of the values that are known. -/
def Pre (val : Nat → Option Value) (slot : Nat → Option Nat) (o : Oper) (a : Act) : Prop := ∀ e ∈ o.after, Region.binds .any e = true → ∀ z s, val e.on = some z → slot e.on = some s → a.tmps[s]? = some z

/-- What each operation of the region is. -/
structure Kinds where
  val : Nat → Option Value
  slot : Nat → Option Nat
  ld : Nat → Option Nat
  bld : Nat → Option Nat
  app : Nat → Option Nat
  sto : Nat → Option Nat

def OpOk (v : Tv) (ch : Nat → Ch) (nc : Nat) (k : Kinds) (a0 : Act) (lo hi : Nat) (i : Nat) (o : Oper) : Prop :=
  (∃ z, k.val i = some z ∧ k.ld i = none ∧ k.bld i = none ∧ k.app i = none ∧ k.sto i = none ∧ ∀ a w, Fr a0 lo hi a → Pre k.val k.slot o a → (execOp a.eval o).run Yba.prog w = .ok (.value z) w)
  ∨ (∃ j, j < nc ∧ k.val i = some ((ch j).get v) ∧ k.ld i = some j ∧ k.bld i = none ∧ k.app i = none ∧ k.sto i = none ∧ ∀ a w, Fr a0 lo hi a → Pre k.val k.slot o a → w.cell? ⟨(ch j).blk, (ch j).off, none⟩ = some ((ch j).get v) → (execOp a.eval o).run Yba.prog w = .ok (.value ((ch j).get v)) w)
  ∨ (∃ j, j < nc ∧ k.val i = none ∧ k.ld i = none ∧ k.bld i = some j ∧ k.app i = none ∧ k.sto i = none ∧ ∀ a w, Fr a0 lo hi a → Pre k.val k.slot o a → (execOp a.eval o).run Yba.prog w = .ok (.value (.slice (some ⟨w.heap.size, 0, none⟩) 1 1)) (w.alloc (.cells #[(ch j).y] (ch j).e)))
  ∨ (∃ j, j < nc ∧ k.val i = none ∧ k.ld i = none ∧ k.bld i = none ∧ k.app i = some j ∧ k.sto i = none ∧ ∃ e1 e2 s1 s2, e1 ∈ o.after ∧ Region.binds .any e1 = true ∧ k.ld e1.on = some j ∧ k.val e1.on = some ((ch j).get v) ∧ k.slot e1.on = some s1 ∧ e2 ∈ o.after ∧ Region.binds .any e2 = true ∧ k.bld e2.on = some j ∧ k.slot e2.on = some s2 ∧ o.op = .call { callee := .builtin .append, args := #[.tmp s1, .tmp s2], argTypes := #[(ch j).st, (ch j).st] })
  ∨ (∃ j, j < nc ∧ k.val i = none ∧ k.ld i = none ∧ k.bld i = none ∧ k.app i = none ∧ k.sto i = some j ∧ k.slot i = none ∧ (∀ q, k.ld q = some j → ∃ e ∈ o.after, Region.binds .any e = true ∧ e.on = q) ∧ ∃ e1 s1, e1 ∈ o.after ∧ Region.binds .any e1 = true ∧ k.app e1.on = some j ∧ k.slot e1.on = some s1 ∧ ∀ a w p q r y, Fr a0 lo hi a → Pre k.val k.slot o a → a.tmps[s1]? = some (.slice p q r) → w.cell? ⟨(ch j).blk, (ch j).off, none⟩ = some y → w.frozen? ⟨(ch j).blk, (ch j).off, none⟩ = false → (execOp a.eval o).run Yba.prog w = .ok .skip (w.setCell ⟨(ch j).blk, (ch j).off, none⟩ (.slice p q r)))

/-- A row grown by one element. -/
def Grown (h : Ch) (K : Nat → Option Ent) (x : Value) : Prop := ∃ g cc, x = .slice (some ⟨g, 0, none⟩) (h.n + 1) cc ∧ K h.r = some ⟨h.e, 1, h.n + 1, x, h.xs ++ [h.y]⟩

theorem wp_chains {id : Nat} {ops : Array Oper} {Q : Exit → Act → World → Prop} {a0 : Act} {w0 : World} {c : Tc} {K : Nat → Option Ent} {v : Tv} (hm : Yba.prog.follows .mixedOrders = true) (hback : backB ops = true) (h : St c K v w0) (hb : c.base ≤ w0.heap.size)
    (nc : Nat) (ch : Nat → Ch) (hok : ∀ j, j < nc → ChOk c K v (ch j)) (hr : ∀ i j, i < nc → j < nc → i ≠ j → (ch i).r ≠ (ch j).r ∧ (ch i).T ≠ (ch j).T) (hrT : ∀ i j, i < nc → j < nc → (ch i).r ≠ (ch j).T) (hgo : ∀ i j, i < nc → j < nc → i ≠ j → ∀ v x, (ch j).get ((ch i).set v x) = (ch j).get v)
    (Sm : Tv → Prop) (hS0 : Sm v) (hS : ∀ j v' x, j < nc → Sm v' → Sm ((ch j).set v' x))
    (k : Kinds) (lo hi : Nat) (hslot : ∀ i s, k.slot i = some s → lo ≤ s ∧ s ≤ hi ∧ s < a0.tmps.size) (hinj : ∀ i j, i < ops.size → j < ops.size → i ≠ j → ∀ s, k.slot i = some s → k.slot j ≠ some s)
    (hub : ∀ i i' j, k.bld i = some j → k.bld i' = some j → i = i') (hua : ∀ i i' j, k.app i = some j → k.app i' = some j → i = i') (hus : ∀ i i' j, k.sto i = some j → k.sto i' = some j → i = i') (hlt : ∀ i j, (k.bld i = some j ∨ k.app i = some j ∨ k.sto i = some j ∨ k.ld i = some j) → j < nc)
    (hop : ∀ i o, ops[i]? = some o → o.guard = none ∧ o.dst = k.slot i ∧ OpOk v ch nc k a0 lo hi i o) (hall : ∀ j, j < nc → ∃ i, i < ops.size ∧ k.sto i = some j)
    (hend : ∀ a w K' v', Fr a0 lo hi a → St c K' v' w → Below c.base w0 w → c.base ≤ w.heap.size → Sm v' → (∀ n, (∀ j, j < nc → n ≠ (ch j).r ∧ n ≠ (ch j).T) → K' n = K n) → (∀ j, j < nc → Grown (ch j) K' ((ch j).get v')) → Q .normal a w) : (Code.region id ops true).wp Yba.prog Q a0 w0 := by
  refine wp_region_ghost hm hback (S := (Nat → Option Ent) × Tv) k.slot lo hi
    (fun s w => St c s.1 s.2 w ∧ Below c.base w0 w ∧ c.base ≤ w.heap.size ∧ Sm s.2 ∧ ∀ n, (∀ j, j < nc → n ≠ (ch j).r ∧ n ≠ (ch j).T) → s.1 n = K n)
    (fun i s x => (∀ z, k.val i = some z → x = z) ∧ (∀ j, k.bld i = some j → ∃ B, x = .slice (some ⟨B, 0, none⟩) 1 1 ∧ s.1 (ch j).T = some ⟨(ch j).e, 1, 1, x, [(ch j).y]⟩) ∧ (∀ j, k.app i = some j → Grown (ch j) s.1 x) ∧ (∀ j, k.sto i = some j → Grown (ch j) s.1 ((ch j).get s.2)))
    (fun i s => (∀ j, k.app i = some j → s.1 (ch j).r = K (ch j).r) ∧ (∀ j, k.ld i = some j → (ch j).get s.2 = (ch j).get v)) (K, v) ⟨h.drew, (Below.refl _ _).drew, hb, hS0, fun _ _ => rfl⟩ (fun _ _ => ⟨fun _ _ => rfl, fun _ _ => rfl⟩) hslot hinj ?_ ?_
  · intro i o ho
    obtain ⟨hg, hd, hk⟩ := hop i o ho
    refine ⟨hg, hd, ?_⟩
    rintro ⟨K1, v1⟩ w a ⟨hst, hbl, hsz, hsm, hfr⟩ ⟨hH1, hH2⟩ hF haf
    have hpre : Pre k.val k.slot o a := by
      intro e he hb z s hz hs
      obtain ⟨x, h1, h2⟩ := haf e he hb
      rw [h1 s hs, h2.1 z hz]
    rcases hk with ⟨z, hz, hl, hbd, hap, hso, hrun⟩ | ⟨j, hj, hz, hl, hbd, hap, hso, hrun⟩ | ⟨j, hj, hz, hl, hbd, hap, hso, hrun⟩ | ⟨j, hj, hz, hl, hbd, hap, hso, hrun⟩ | ⟨j, hj, hz, hl, hbd, hap, hso, hrun⟩
    · refine ⟨z, w, (K1, v1), .inl (hrun a w hF hpre), ⟨hst, hbl, hsz, hsm, hfr⟩, ?_, fun _ _ _ h => h, fun _ _ _ h => h⟩
      exact ⟨fun y hy => Option.some.inj (hz.symm.trans hy), fun j hj => by (rw [hbd] at hj; cases hj), fun j hj => by (rw [hap] at hj; cases hj), fun j hj => by (rw [hso] at hj; cases hj)⟩
    · have hcell := ((hok j hj).cell K1 v1 w hst).1
      rw [hH2 j hl] at hcell
      refine ⟨_, w, (K1, v1), .inl (hrun a w hF hpre hcell), ⟨hst, hbl, hsz, hsm, hfr⟩, ?_, fun _ _ _ h => h, fun _ _ _ h => h⟩
      exact ⟨fun y hy => Option.some.inj (hz.symm.trans hy), fun j hj => by (rw [hbd] at hj; cases hj), fun j hj => by (rw [hap] at hj; cases hj), fun j hj => by (rw [hso] at hj; cases hj)⟩
    · have hs2 : Sep (w.alloc (.cells #[(ch j).y] (ch j).e)) c.base (upd K1 (ch j).T ⟨(ch j).e, 1, 1, .slice (some ⟨w.heap.size, 0, none⟩) 1 1, [(ch j).y]⟩) := hst.sep.row (ch j).e (ch j).T 1 #[(ch j).y] rfl hsz (by unfold maxLen; omega) _ rfl
      have hst2 : St c (upd K1 (ch j).T ⟨(ch j).e, 1, 1, .slice (some ⟨w.heap.size, 0, none⟩) 1 1, [(ch j).y]⟩) v1 (w.alloc (.cells #[(ch j).y] (ch j).e)) := hst.grow hs2 (upd_ty hst.ty _ _ (hok j hj).ty) (r := none) ⟨rfl, rfl, rfl, by simp, fun b hb' _ => Below.heap_alloc _ _ _ hb'⟩ (fun b e => by cases e)
      refine ⟨_, _, (upd K1 (ch j).T ⟨(ch j).e, 1, 1, .slice (some ⟨w.heap.size, 0, none⟩) 1 1, [(ch j).y]⟩, v1), .inl (hrun a w hF hpre), ⟨hst2, hbl.alloc hsz _, by simp; omega, hsm, fun n hn => (upd_other _ _ (hn j hj).2).trans (hfr n hn)⟩, ?_, ?_, ?_⟩
      · refine ⟨fun y hy => by rw [hz] at hy; (cases hy), fun j' hj' => ?_, fun j hj => by rw [hap] at hj; (cases hj), fun j hj => by rw [hso] at hj; (cases hj)⟩
        rw [hbd] at hj'
        cases hj'
        exact ⟨_, rfl, upd_same _ _ _⟩
      · rintro q x hq ⟨p1, p2, p3, p4⟩
        refine ⟨p1, fun j' hj' => ?_, fun j' hj' => ?_, fun j' hj' => ?_⟩
        · obtain ⟨B, e1, e2⟩ := p2 j' hj'
          have hne : j' ≠ j := by rintro rfl; exact hq (hub _ _ _ hj' hbd)
          exact ⟨B, e1, (upd_other _ _ (hr j' j (hlt _ _ (.inl hj')) hj hne).2).trans (e2)⟩
        · obtain ⟨g, cc, e1, e2⟩ := p3 j' hj'
          exact ⟨g, cc, e1, (upd_other _ _ (hrT j' j (hlt _ _ (.inr (.inl hj'))) hj)).trans (e2)⟩
        · obtain ⟨g, cc, e1, e2⟩ := p4 j' hj'
          exact ⟨g, cc, e1, (upd_other _ _ (hrT j' j (hlt _ _ (.inr (.inr (.inl hj')))) hj)).trans (e2)⟩
      · rintro q hq _ ⟨p1, p2⟩
        exact ⟨fun j' hj' => (upd_other _ _ (hrT j' j (hlt _ _ (.inr (.inl hj'))) hj)).trans (p1 j' hj'), p2⟩
    · obtain ⟨e1, e2, s1, s2, m1, b1, l1, v1', t1, m2, b2, l2, t2, hopc⟩ := hrun
      obtain ⟨x1, q1, q2⟩ := haf e1 m1 b1
      obtain ⟨x2, q3, q4⟩ := haf e2 m2 b2
      have hx1 := q2.1 _ v1'
      subst hx1
      obtain ⟨B, hB, hrowT⟩ := q4.2.1 j l2
      subst hB
      have hrow : K1 (ch j).r = some ⟨(ch j).e, 1, (ch j).n, (ch j).get v, (ch j).xs⟩ := (hH1 j hap).trans (hok j hj).row
      obtain ⟨z, bytes, hinfo, hzc, hbb⟩ := (hok j hj).info
      obtain ⟨i3, hi, hz0, hz1, hz2⟩ := info_parts hinfo
      have hn1 := (hok j hj).n1
      have hbytes : ((ch j).n + 1) * bytes ≤ 1000000 * 64 := Nat.mul_le_mul hn1 hbb
      have hcB : w.cell? ⟨B, 0, none⟩ = some (ch j).y := hst.sep.cell hrowT rfl
      obtain ⟨g, cap, w2, hr2, ho2, hg2, hat2, hlt2⟩ := run_append_lies (P := Yba.prog) w (ch j).st o.type c.base (ch j).e i3 z 1 bytes (hok j hj).ul hi hz0 hz1 hz2 hzc (by omega) ((ch j).get v) (ch j).n (ch j).xs (hst.sep.own _ _ hrow) ⟨B, 0, none⟩ 1 1 [(ch j).y] rfl (by
        intro q u hq
        cases q with
        | zero => simp at hq; subst hq; simpa [Addr.add] using hcB
        | succ q => simp at hq) (by simpa using (hok j hj).y1) (by omega) (by unfold maxLen; omega) (by omega) hsz w.heap.size rfl
      have hs2 := hst.sep.turn (e' := ⟨(ch j).e, 1, (ch j).n + 1, .slice (some ⟨g, 0, none⟩) ((ch j).n + 1) cap, (ch j).xs ++ [(ch j).y]⟩) hrow ho2 hg2 (by
        intro b hb'
        simp [Value.ownBlock] at hb'
        subst hb'
        rcases hat2 with h | h
        · exact .inl h
        · exact .inr (by omega))
      have hst2 := hst.grow hs2 (upd_ty hst.ty _ _ (hok j hj).ty) hg2 (fun b hb' => ⟨_, _, hrow, hb'⟩)
      refine ⟨.slice (some ⟨g, 0, none⟩) ((ch j).n + 1) cap, w2, (upd K1 (ch j).r ⟨(ch j).e, 1, (ch j).n + 1, .slice (some ⟨g, 0, none⟩) ((ch j).n + 1) cap, (ch j).xs ++ [(ch j).y]⟩, v1), .inl ?_, ⟨hst2, hbl.trans ((Below.refl _ _).grown hg2 hsz (fun b hb' => (hst.sep.lt hrow b hb').1)), by have := hg2.size; omega, hsm, fun n hn => (upd_other _ _ (hn j hj).1).trans (hfr n hn)⟩, ?_, ?_, ?_⟩
      · have ev1 := eval_at (q1 s1 t1)
        have ev2 := eval_at (q3 s2 t2)
        unfold execOp
        simp only [hopc, resolve, invoke, builtin, Sem.run_bind, Sem.run_pure, Result.andThen_ok, List.map_toArray, List.map_cons, List.map_nil, ev1, ev2, hr2]
      · refine ⟨fun y hy => by rw [hz] at hy; (cases hy), fun j hj => by rw [hbd] at hj; (cases hj), fun j' hj' => ?_, fun j hj => by rw [hso] at hj; (cases hj)⟩
        rw [hap] at hj'
        cases hj'
        exact ⟨g, cap, rfl, upd_same _ _ _⟩
      · rintro q x hq ⟨p1, p2, p3, p4⟩
        refine ⟨p1, fun j' hj' => ?_, fun j' hj' => ?_, fun j' hj' => ?_⟩
        · obtain ⟨B, e1, e2⟩ := p2 j' hj'
          exact ⟨B, e1, (upd_other _ _ (Ne.symm (hrT j j' hj (hlt _ _ (.inl hj'))))).trans (e2)⟩
        · obtain ⟨g, cc, e1, e2⟩ := p3 j' hj'
          have hne : j' ≠ j := by rintro rfl; exact hq (hua _ _ _ hj' hap)
          exact ⟨g, cc, e1, (upd_other _ _ (hr j' j (hlt _ _ (.inr (.inl hj'))) hj hne).1).trans (e2)⟩
        · obtain ⟨g, cc, e1, e2⟩ := p4 j' hj'
          have hne : j' ≠ j := by
            rintro rfl
            have e3 := hrow.symm.trans e2
            simp at e3
          exact ⟨g, cc, e1, (upd_other _ _ (hr j' j (hlt _ _ (.inr (.inr (.inl hj')))) hj hne).1).trans (e2)⟩
      · rintro q hq _ ⟨p1, p2⟩
        refine ⟨fun j' hj' => ?_, p2⟩
        have hne : j' ≠ j := by rintro rfl; exact hq (hua _ _ _ hj' hap)
        exact (upd_other _ _ (hr j' j (hlt _ _ (.inr (.inl hj'))) hj hne).1).trans (p1 j' hj')
    · obtain ⟨hsl, hlds, e1, s1, m1, b1, l1, t1, hrun⟩ := hrun
      obtain ⟨x1, q1, q2⟩ := haf e1 m1 b1
      have hgr := q2.2.2.1 j l1
      obtain ⟨c1, f1, bb⟩ := (hok j hj).cell K1 v1 w hst
      obtain ⟨gx, cx, hx1, hx2⟩ := hgr
      have hgr : Grown (ch j) K1 x1 := ⟨gx, cx, hx1, hx2⟩
      have hax := q1 s1 t1
      rw [hx1] at hax
      have hrn := hrun a w _ _ _ _ hF hpre hax c1 f1
      rw [← hx1] at hrn
      refine ⟨undef, _, (K1, (ch j).set v1 x1), .inr ⟨hrn, hsl⟩, ⟨(hok j hj).store K1 v1 w x1 hst, hbl.setCell bb _, by simpa using hsz, hS j v1 x1 hj hsm, hfr⟩, ?_, ?_, ?_⟩
      · refine ⟨fun y hy => by rw [hz] at hy; (cases hy), fun j hj => by rw [hbd] at hj; (cases hj), fun j hj => by rw [hap] at hj; (cases hj), fun j' hj' => ?_⟩
        rw [hso] at hj'
        cases hj'
        show Grown _ _ ((ch j).get ((ch j).set v1 x1))
        rw [(hok j hj).gs]
        exact hgr
      · rintro q x hq ⟨p1, p2, p3, p4⟩
        refine ⟨p1, p2, p3, fun j' hj' => ?_⟩
        have hne : j ≠ j' := by rintro rfl; exact hq (hus _ _ _ hj' hso)
        show Grown _ _ ((ch j').get ((ch j).set v1 x1))
        rw [hgo j j' hj (hlt _ _ (.inr (.inr (.inl hj')))) hne]
        exact p4 j' hj'
      · rintro q hq hno ⟨p1, p2⟩
        refine ⟨p1, fun j' hj' => ?_⟩
        have hne : j ≠ j' := by
          rintro rfl
          obtain ⟨e, he, hb', hq'⟩ := hlds q hj'
          exact hno e he hb' hq'
        show (ch j').get ((ch j).set v1 x1) = _
        rw [hgo j j' hj (hlt _ _ (.inr (.inr (.inr hj')))) hne]
        exact p2 j' hj'
  · rintro a w ⟨K1, v1⟩ ⟨hst, hbl, hsz, hsm, hfr⟩ hF hU
    refine hend a w K1 v1 hF hst hbl hsz hsm hfr (fun j hj => ?_)
    obtain ⟨i, hi, hs⟩ := hall j hj
    obtain ⟨x, _, hx⟩ := hU i hi
    exact hx.2.2.2 j hs
end Go.Proofs.Ybulkuoc
