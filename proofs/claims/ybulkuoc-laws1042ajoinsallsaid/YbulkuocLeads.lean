/- leadsThrough of a place that leads to v already. -/
import Derived.Test.YbulkuocBsearch
import Derived.Test.YbulkuocJoin
namespace Go.Proofs.Ybulkuoc
open Go.RowKit

theorem info120 : (Yba.prog.info? 120).map (fun i => (i.zero, i.size, i.bytes)) = some (some (.agg #[.int .i64 0, .int .i64 0]), 2, 16) := by kernel_rfl
theorem ty120 : TyOk 120 := by unfold TyOk; decide
theorem build120 (p q : Int) (w : World) : (Instr.build 120 #[(0, .int .i64 p), (1, .int .i64 q)]).run Yba.prog w = .ok (.agg #[.int .i64 p, .int .i64 q]) w := run_build w 120 _ _ (by kernel_rfl)

/-- append of one pair. -/
theorem wpList_app2 {ops : Array Oper} {rest : List Oper} {o : Oper} {a : Act} {Q : Exit → Act → World → Prop} (W : World) (hgd : o.guard = none) (s x : Operand) (ho : o.op = .call { callee := .builtin .append, args := #[s, x], argTypes := #[41, 41] })
    {base : Nat} {K : Nat → Option Ent} (hs : Sep W base K) {k n : Nat} {v : Value} {xs : List Value} (hk : K k = some ⟨120, 2, n, v, xs⟩)
    (hse : a.eval s = v) (B c : Nat) (y1 y2 : Value) (hx : a.eval x = .slice (some ⟨B, 0, none⟩) 1 c) (hB : W.cell? ⟨B, 0, none⟩ = some y1) (hB2 : W.cell? ⟨B, 1, none⟩ = some y2) (hy : y1.oneCell' = true) (hy2 : y2.oneCell' = true) (hn : n + 1 ≤ 1000000) (hb : base ≤ W.heap.size)
    (hK : ∀ g c' w', Sep w' base (upd K k ⟨120, 2, n + 1, .slice (some ⟨g, 0, none⟩) (n + 1) c', xs ++ [y1, y2]⟩) → W.grownBy w' v.ownBlock → Below base W w' → wpList Yba.prog ops Q rest (a.put o.dst (.slice (some ⟨g, 0, none⟩) (n + 1) c')) w') : wpList Yba.prog ops Q (o :: rest) a W := by
  obtain ⟨i3, hi, hz0, hz1, hz2⟩ := info_parts info120
  refine wpList_append_lies W hgd s x 41 ho base 120 i3 _ 2 16 Yba.underlying41 hi hz0 hz1 hz2 rfl (by omega) v n xs hse (hs.own k _ hk) ⟨B, 0, none⟩ 1 c [y1, y2] hx rfl ?_ (by simp [hy, hy2]) (by omega) (by unfold maxLen; omega) (by omega) hb W.heap.size rfl ?_
  · intro j u hj
    match j, hj with
    | 0, hj => simp at hj; subst hj; simpa [Addr.add] using hB
    | 1, hj => simp at hj; subst hj; simpa [Addr.add] using hB2
    | j + 2, hj => simp at hj
  · intro g c' w' ho' hg hat hlt
    refine hK g c' w' (hs.turn hk ho' hg ?_) hg ((Below.refl base W).grown hg hb (fun b hb' => (hs.lt hk b hb').1))
    intro b hb'
    simp [Value.ownBlock] at hb'
    subst hb'
    rcases hat with h | h
    · exact .inl h
    · exact .inr (by omega)

/-- The rows, some of which have turned. -/
theorem Rw.turn {c : Tc} {K K' : Nat → Option Ent} {v v' : Tv} {D : Nat → Option Ent} {J : List Nat} {O I : Nat → List Nat} {L L' : Nat → Int} {B B' m : Nat} (h : Rw c K v D J O I L B m) (hk : ∀ k, k < 1000 → k ≠ 6 → k ≠ 7 → k ≠ 8 → k ≠ 14 → k ≠ 18 → K' k = K k) (hv : v' = { v with gained := v'.gained, parked := v'.parked, work := v'.work }) (hB : B ≤ B')
    (r6 : ∃ f : Nat → Int, K' 6 = some ⟨3, 1, J.length + 2, v'.frm, rowOf f (J.length + 2)⟩ ∧ ∀ p, 0 ≤ f p ∧ f p ≤ (B' : Int)) (r7 : K' 7 = some ⟨3, 1, J.length + 2, v'.len, rowOf L' (J.length + 2)⟩) (r8 : ∃ f : Nat → Int, K' 8 = some ⟨3, 1, J.length + 2, v'.nxt, rowOf f (J.length + 2)⟩ ∧ ∀ p, -1 ≤ f p ∧ f p ≤ (B' : Int))
    (r14 : ∃ q : List Nat, K' 14 = some ⟨22, 1, q.length, v'.parked, u64s q⟩ ∧ q.length ≤ B') (r18 : ∃ g : List (Nat × Nat), K' 18 = some ⟨120, 2, g.length, v'.gained, pairs g⟩ ∧ g.length ≤ B' ∧ ∀ x ∈ g, 2 ≤ x.1 ∧ x.1 < J.length + 2 ∧ x.2 < J.length + 2) : Rw c K' v' D J O I L' B' m := by
  have hl := h.lJ
  refine ⟨?_, ?_, ?_, ?_, ?_, ?_, r6, r7, r8, ?_, ?_, ?_, ?_, ?_, r14, r18, ?_, ?_, ?_, h.lJ, ?_⟩
  · rw [hk 0 (by omega) (by omega) (by omega) (by omega) (by omega) (by omega)]; exact h.r0
  · rw [hk 1 (by omega) (by omega) (by omega) (by omega) (by omega) (by omega), hv]; exact h.r1
  · rw [hv]; exact h.r2.keep (hk 2 (by omega) (by omega) (by omega) (by omega) (by omega) (by omega)) (fun u hu => hk _ (by omega) (by omega) (by omega) (by omega) (by omega) (by omega))
  · rw [hv]; exact h.r3.keep (hk 3 (by omega) (by omega) (by omega) (by omega) (by omega) (by omega)) (fun u hu => hk _ (by omega) (by omega) (by omega) (by omega) (by omega) (by omega))
  · rw [hk 4 (by omega) (by omega) (by omega) (by omega) (by omega) (by omega), hv]; exact h.r4
  · rw [hk 5 (by omega) (by omega) (by omega) (by omega) (by omega) (by omega), hv]; exact h.r5
  · rw [hk 9 (by omega) (by omega) (by omega) (by omega) (by omega) (by omega), hv]; exact h.r9
  · rw [hk 10 (by omega) (by omega) (by omega) (by omega) (by omega) (by omega), hv]; exact h.r10
  · rw [hk 11 (by omega) (by omega) (by omega) (by omega) (by omega) (by omega), hv]; exact h.r11
  · rw [hk 12 (by omega) (by omega) (by omega) (by omega) (by omega) (by omega), hv]; exact h.r12
  · rw [hk 13 (by omega) (by omega) (by omega) (by omega) (by omega) (by omega), hv]; exact h.r13
  · intro k h1 h2
    rw [hk k (by omega) (by omega) (by omega) (by omega) (by omega) (by omega)]; exact h.rD k h1 h2
  · intro p; have := h.bO p; omega
  · intro p; have := h.bI p; omega
  · rw [hv]; exact h.st
theorem pairs_snoc (g : List (Nat × Nat)) (p q : Nat) : pairs (g ++ [(p, q)]) = pairs g ++ [.int .i64 (p : Int), .int .i64 (q : Int)] := by simp [pairs]

theorem reached_get {n q : Nat} (h1 : 1 ≤ q) (h2 : q < n + 2) : (Value.bool false :: List.replicate (n + 1) (.bool true))[q]? = some (.bool true) := by
  obtain ⟨k, rfl⟩ : ∃ k, q = k + 1 := ⟨q - 1, by omega⟩
  rw [List.getElem?_cons_succ, List.getElem?_replicate, if_pos (by omega)]

set_option maxRecDepth 20000 in
set_option maxHeartbeats 3200000 in
theorem leadsThrough_calls (c : Tc) (K D : Nat → Option Ent) (v : Tv) (w : World) (J : List Nat) (O I : Nat → List Nat) (L : Nat → Int) (B m p q : Nat) (h : St c K v w) (hR : Rw c K v D J O I L B m) (hb : c.base ≤ w.heap.size) (hB : B ≤ 50000) (hp2 : 2 ≤ p) (hpM : p < J.length + 2) (hqM : q < J.length + 2) :
    Calls Yba.prog 49 #[.pointer (some ⟨c.C, 0, none⟩), .int .i64 (p : Nat), .int .i64 (q : Nat)] w fun e w' => e = .returned (.tuple #[]) ∧ Below c.base w w' ∧ ∃ K' v', St c K' v' w' ∧ v'.work = v.work ∧ Rw c K' v' D J O I L (B + 1) m := by
  obtain ⟨f6, e6, b6⟩ := hR.r6
  obtain ⟨gd, e18, b18, p18⟩ := hR.r18
  obtain ⟨gF, cF, hF, _⟩ := h.sep.form e6 |>.2 |>.resolve_left (by rintro ⟨_, h2⟩; simp at h2)
  have hF : v.frm = .slice (some ⟨gF, 0, none⟩) (J.length + 2) cF := hF
  obtain ⟨gR, cR, hRr, _⟩ := h.sep.form hR.r5 |>.2 |>.resolve_left (by rintro ⟨_, h2⟩; simp at h2)
  have hRr : v.reached = .slice (some ⟨gR, 0, none⟩) (J.length + 2) cR := hRr
  have e6' : K 6 = some ⟨3, 1, J.length + 2, .slice (some ⟨gF, 0, none⟩) (J.length + 2) cF, rowOf f6 (J.length + 2)⟩ := by rw [e6, hF]
  have e5' : K 5 = some ⟨4, 1, J.length + 2, .slice (some ⟨gR, 0, none⟩) (J.length + 2) cR, .bool false :: List.replicate (J.length + 1) (.bool true)⟩ := by rw [hR.r5, hRr]
  have c15 : w.cell? ⟨c.C, 15, none⟩ = some (.pointer (some ⟨c.BT, 0, none⟩)) := h.hC.cell? 15
  have b1 : w.cell? ⟨c.BT, 1, none⟩ = some (.slice (some ⟨gF, 0, none⟩) (J.length + 2) cF) := by rw [← hF]; exact h.hBT.cell? 1
  have cf := h.sep.cell e6' (rowOf_get f6 hpM)
  have ff := h.sep.free e6' p
  have hfp := b6 p
  have hpM' : (p : Int) < ((J.length : Int) + 2) := by omega
  have hs1 := h.sep.put e6' (j := p) (.int .i64 (f6 p + 1))
  rw [rowOf_set] at hs1
  have hst1 := h.grow hs1 (upd_ty h.ty _ _ ty3) (r := some gF) ⟨rfl, rfl, rfl, by simp, fun b _ hb => Below.heap_setCell _ _ _ _ (fun e => hb (by rw [e]))⟩ (fun b hb => ⟨6, _, e6', hb⟩)
  have hbl1 : Below c.base w (w.setCell ⟨gF, p, none⟩ (.int .i64 (f6 p + 1))) := (Below.refl _ _).setCell (h.sep.lt e6' gF rfl).1 _
  have hsz1 : c.base ≤ (w.setCell ⟨gF, p, none⟩ (.int .i64 (f6 p + 1))).heap.size := by simpa using hb
  have HB : Hid (∀ p, 0 ≤ f6 p ∧ f6 p ≤ (B : Int)) := b6
  have HP : Hid (∀ x ∈ gd, 2 ≤ x.1 ∧ x.1 < J.length + 2 ∧ x.2 < J.length + 2) := p18
  have HR : Hid (Rw c K v D J O I L B m) := hR
  clear b6 p18 hR hs1
  go_enter Yba.func49, Yba.ntmps49
  go_upto_region 2 with fail
  generalize w.setCell ⟨gF, p, none⟩ (.int .i64 (f6 p + 1)) = w1 at hst1 hbl1 hsz1 ⊢
  have c32 : w1.cell? ⟨c.C, 32, none⟩ = some v.gained := hst1.hC.cell? 32
  obtain ⟨da, dc, hdv, _⟩ := h.sep.shape e18
  have e18' : upd K 6 ⟨3, 1, J.length + 2, .slice (some ⟨gF, 0, none⟩) (J.length + 2) cF, rowOf (fun y => if y = p then f6 p + 1 else f6 y) (J.length + 2)⟩ 18 = some ⟨120, 2, gd.length, v.gained, pairs gd⟩ := by rw [upd_other _ _ (by omega)]; exact e18
  rw [hdv] at c32
  go_upto_region 3 with (first
    | (refine wpList_build (t := 120) rfl _ #[(0, .int .i64 (p : Int)), (1, .int .i64 (q : Int))] _ rfl (by first | kernel_rfl | (simp [Act.eval]; done) | (go_simp; done)) (build120 _ _ _) ?_; go_frame)
    | (at_builtin; refine wpList_app2 _ rfl _ _ rfl (hst1.sep.alloc _) e18' (by first | rfl | exact hdv.symm) w1.heap.size 1 (.int .i64 (p : Int)) (.int .i64 (q : Int)) rfl (by simp) (by simp) rfl rfl (by omega) (by simp; omega) ?_; intro g2 c2 w2 hs2 hg2 hb2; have hst2 := (hst1.alloc _).grow hs2 (upd_ty hst1.ty _ _ ty120) hg2 (fun b hb => ⟨18, _, e18', hb⟩); have d32 : w2.cell? ⟨c.C, 32, none⟩ = some v.gained := hst2.hC.cell? 32; have f32 := hst2.hC.free 32)
    | fail)
  have hst3 : St c _ { v with gained := .slice (some ⟨g2, 0, none⟩) (gd.length + 1) c2 } (w2.setCell ⟨c.C, 32, none⟩ (.slice (some ⟨g2, 0, none⟩) (gd.length + 1) c2)) := hst2.setC 32 _ rfl rfl rfl rfl rfl rfl rfl
  have hbl3 : Below c.base w (w2.setCell ⟨c.C, 32, none⟩ (.slice (some ⟨g2, 0, none⟩) (gd.length + 1) c2)) := ((hbl1.alloc hsz1 _).trans hb2).setCell h.lo.1 _
  generalize w2.setCell ⟨c.C, 32, none⟩ (.slice (some ⟨g2, 0, none⟩) (gd.length + 1) c2) = w3 at hst3 hbl3 ⊢
  have b0 : w3.cell? ⟨c.BT, 0, none⟩ = some (.slice (some ⟨gR, 0, none⟩) (J.length + 2) cR) := by rw [← hRr]; exact hst3.hBT.cell? 0
  have hup5 : upd (upd K 6 ⟨3, 1, J.length + 2, .slice (some ⟨gF, 0, none⟩) (J.length + 2) cF, rowOf (fun y => if y = p then f6 p + 1 else f6 y) (J.length + 2)⟩) 18 ⟨120, 2, gd.length + 1, .slice (some ⟨g2, 0, none⟩) (gd.length + 1) c2, pairs gd ++ [.int .i64 (p : Int), .int .i64 (q : Int)]⟩ 5 = some ⟨4, 1, J.length + 2, .slice (some ⟨gR, 0, none⟩) (J.length + 2) cR, .bool false :: List.replicate (J.length + 1) (.bool true)⟩ := by rw [upd_other _ _ (by omega), upd_other _ _ (by omega)]; exact e5'
  have cr := hst3.sep.cell hup5 (reached_get (by omega) hpM)
  clear hst2 hs2 hg2 hb2 d32 f32 hst1 hbl1 hsz1 c32
  go_wp2_with fail
  refine bodyPost_ret (v := .tuple #[]) (by simp [results, Yba.results49, go_sem]) rfl ⟨rfl, hbl3, _, _, hst3, rfl, ?_⟩
  have hR := HR.out
  refine hR.turn (fun k h1 h2 h3 h4 h5 h6 => by rw [upd_other _ _ h6, upd_other _ _ h2]) rfl (by omega) ⟨fun y => if y = p then f6 p + 1 else f6 y, by rw [upd_other _ _ (by omega), upd_same]; exact congrArg _ (by rw [← hF]), fun y => ?_⟩ (by rw [upd_other _ _ (by omega), upd_other _ _ (by omega)]; exact hR.r7) ?_ ?_ ⟨gd ++ [(p, q)], by rw [upd_same, pairs_snoc]; simp, by simp; omega, ?_⟩
  · have := HB.out y
    show 0 ≤ (if y = p then f6 p + 1 else f6 y) ∧ (if y = p then f6 p + 1 else f6 y) ≤ ((B + 1 : Nat) : Int)
    split
    · omega
    · omega
  · obtain ⟨f8, e8, b8⟩ := hR.r8
    exact ⟨f8, by rw [upd_other _ _ (by omega), upd_other _ _ (by omega)]; exact e8, fun y => by have := b8 y; omega⟩
  · obtain ⟨q', e14, b14⟩ := hR.r14
    exact ⟨q', by rw [upd_other _ _ (by omega), upd_other _ _ (by omega)]; exact e14, by omega⟩
  · intro x hx
    rcases List.mem_append.1 hx with hx | hx
    · exact HP.out x hx
    · simp at hx
      subst hx
      exact ⟨hp2, hpM, hqM⟩
end Go.Proofs.Ybulkuoc
