/- graph.NewImplicit: its contract; its one region draws the order of two makes, two calls and a literal. -/
import Derived.Test.YbulkuocRegInv
import Derived.Test.YbulkuocNewOrder
import Derived.Test.YbulkuocRepeat
namespace Go.Proofs.Ybulkuoc
open Go.RowKit

theorem wpOp_call {P : Program} {ops : Array Oper} {Q : Exit → Act → World → Prop} {i : Nat} {o : Oper} {K : Act → World → Prop} {a : Act} {w : World} {d : Option Tmp} {f : Nat} {args : Array Value} (ho : ops[i]? = some o) (hg : o.guard = none) (hd : o.dst = d)
    (hrun : (execOp a.eval o).run P w = .ok (.enter f args) w) (h : Calls P f args w fun e w' => ∃ v, e = .returned v ∧ K (a.put d v) w') : wpOp P ops Q i K a w := by
  subst hd
  unfold wpOp
  simp only [ho]
  rw [if_pos (by simp [Region.wanted, hg])]
  left
  unfold Oper.wp
  rw [hrun]
  refine h.mono ?_
  rintro e w' ⟨v, rfl, hK⟩
  exact hK

theorem exec_add (a b : Int) (x y : Operand) {o : Oper} {ρ : Operand → Value} (w : World) (ho : o.op = .binOp .add 3 x y 3) (hx : ρ x = .int .i64 a) (hy : ρ y = .int .i64 b) :
    (execOp ρ o).run Yba.prog w = .ok (.value (.int .i64 (IntKind.i64.wrap (a + b)))) w := by
  simp [execOp, ho, hx, hy]
  go_simp

theorem exec_call32 {o : Oper} {ρ : Operand → Value} {x y : Operand} {vx vy : Value} (w : World) (ho : o.op = .call { callee := .value (.func 32), args := #[x, y], argTypes := #[3, 22] }) (hf : ρ (.func 32) = .func (.func 32) #[] #[]) (hx : ρ x = vx) (hy : ρ y = vy) :
    (execOp ρ o).run Yba.prog w = .ok (.enter 32 #[vx, vy]) w := by
  simp only [execOp, ho, resolve, hf, List.map_toArray, List.map_cons, List.map_nil, hx, hy]
  go_simp

theorem build101 (n : Int) (a3 a4 a7 : Option Addr) (l3 c3 l4 c4 l7 c7 : Nat) (ob : Nat) (w : World) :
    (Instr.build 101 #[(0, .func (.func 18) #[] #[]), (1, .func (.func 18) #[] #[]), (2, .int .i64 n), (3, .slice a3 l3 c3), (4, .slice a4 l4 c4), (6, .pointer (some ⟨ob, 0, none⟩)), (7, .slice a7 l7 c7)]).run Yba.prog w =
      .ok (.agg #[.func (.func 18) #[] #[], .func (.func 18) #[] #[], .int .i64 n, .slice a3 l3 c3, .slice a4 l4 c4, .int .i64 0, .pointer (some ⟨ob, 0, none⟩), .slice a7 l7 c7, .slice none 0 0, .bool false]) w :=
  run_build w 101 _ _ (by kernel_rfl)
theorem buildS26 (w : World) : (Instr.buildSlice 26 1 #[(0, .int .i64 (-1))]).run Yba.prog w = .ok (.slice (some ⟨w.heap.size, 0, none⟩) 1 1) (w.alloc (.cells #[.int .i64 (-1)] 3)) := by kernel_rfl

theorem exec_call33 {o : Oper} {ρ : Operand → Value} {x y : Operand} {vx vy : Value} (w : World) (ho : o.op = .call { callee := .value (.func 33), args := #[x, y], argTypes := #[26, 3] }) (hf : ρ (.func 33) = .func (.func 33) #[] #[]) (hx : ρ x = vx) (hy : ρ y = vy) :
    (execOp ρ o).run Yba.prog w = .ok (.enter 33 #[vx, vy]) w := by
  simp only [execOp, ho, resolve, hf, List.map_toArray, List.map_cons, List.map_nil, hx, hy]
  go_simp

/-- What operation k of NewImplicit's one drawn region leaves. -/
def niF (n : Nat) (k : Nat) (a : Act) (w : World) : Prop :=
  match k with
  | 0 => a.tmps[9]? = some (.func (.func 18) #[] #[])
  | 1 => a.tmps[10]? = some (.func (.func 18) #[] #[])
  | 2 => a.tmps[11]? = some (.int .i64 n)
  | 3 => a.tmps[12]? = some (.int .i64 n)
  | 4 => a.tmps[13]? = some (.int .i64 0)
  | 5 => a.tmps[14]? = some (.int .i64 n)
  | 6 => ∃ ad l c, a.tmps[15]? = some (.slice ad l c)
  | 7 => a.tmps[16]? = some (.int .i64 n)
  | 8 => a.tmps[17]? = some (.int .i64 0)
  | 9 => a.tmps[18]? = some (.int .i64 n)
  | 10 => ∃ ad l c, a.tmps[19]? = some (.slice ad l c)
  | 11 => a.tmps[20]? = some (.int .i64 n)
  | 12 => ∃ ob lb pb nb cs, a.tmps[21]? = some (.pointer (some ⟨ob, 0, none⟩)) ∧ Blk w ob #[.int .i64 n, .int .i64 (n + 1), .slice (some ⟨lb, 0, none⟩) (n + 2) (n + 2), .slice (some ⟨pb, 0, none⟩) (n + 2) (n + 2), .slice (some ⟨nb, 0, none⟩) (n + 2) (n + 2), .int .u64 4611686018427387904] 122 ∧ Blk w nb cs 3 ∧ ∀ v, v < n → cs[v]? = some (.int .i64 (-1))
  | 13 => ∃ xb, a.tmps[22]? = some (.slice (some ⟨xb, 0, none⟩) 1 1) ∧ Blk w xb #[.int .i64 (-1)] 3
  | 14 => a.tmps[23]? = some (.int .i64 n)
  | 15 => ∃ ad l c, a.tmps[24]? = some (.slice ad l c)
  | 16 => ∃ a3 l3 c3 a4 l4 c4 a7 l7 c7 ob lb pb nb cs, a.tmps[25]? = some (.agg #[.func (.func 18) #[] #[], .func (.func 18) #[] #[], .int .i64 n, .slice a3 l3 c3, .slice a4 l4 c4, .int .i64 0, .pointer (some ⟨ob, 0, none⟩), .slice a7 l7 c7, .slice none 0 0, .bool false]) ∧ Blk w ob #[.int .i64 n, .int .i64 (n + 1), .slice (some ⟨lb, 0, none⟩) (n + 2) (n + 2), .slice (some ⟨pb, 0, none⟩) (n + 2) (n + 2), .slice (some ⟨nb, 0, none⟩) (n + 2) (n + 2), .int .u64 4611686018427387904] 122 ∧ Blk w nb cs 3 ∧ ∀ v, v < n → cs[v]? = some (.int .i64 (-1))
  | 17 => ∃ gb a3 l3 c3 a4 l4 c4 a7 l7 c7 ob lb pb nb cs, a.tmps[26]? = some (.pointer (some ⟨gb, 0, none⟩)) ∧ Blk w gb #[.func (.func 18) #[] #[], .func (.func 18) #[] #[], .int .i64 n, .slice a3 l3 c3, .slice a4 l4 c4, .int .i64 0, .pointer (some ⟨ob, 0, none⟩), .slice a7 l7 c7, .slice none 0 0, .bool false] 101 ∧ Blk w ob #[.int .i64 n, .int .i64 (n + 1), .slice (some ⟨lb, 0, none⟩) (n + 2) (n + 2), .slice (some ⟨pb, 0, none⟩) (n + 2) (n + 2), .slice (some ⟨nb, 0, none⟩) (n + 2) (n + 2), .int .u64 4611686018427387904] 122 ∧ Blk w nb cs 3 ∧ ∀ v, v < n → cs[v]? = some (.int .i64 (-1))
  | 18 => ∃ gb a3 l3 c3 a4 l4 c4 a7 l7 c7 ob lb pb nb cs, a.tmps[8]? = some (.pointer (some ⟨gb, 0, none⟩)) ∧ Blk w gb #[.func (.func 18) #[] #[], .func (.func 18) #[] #[], .int .i64 n, .slice a3 l3 c3, .slice a4 l4 c4, .int .i64 0, .pointer (some ⟨ob, 0, none⟩), .slice a7 l7 c7, .slice none 0 0, .bool false] 101 ∧ Blk w ob #[.int .i64 n, .int .i64 (n + 1), .slice (some ⟨lb, 0, none⟩) (n + 2) (n + 2), .slice (some ⟨pb, 0, none⟩) (n + 2) (n + 2), .slice (some ⟨nb, 0, none⟩) (n + 2) (n + 2), .int .u64 4611686018427387904] 122 ∧ Blk w nb cs 3 ∧ ∀ v, v < n → cs[v]? = some (.int .i64 (-1))
  | _ => False

def niS (k : Nat) : Nat := ([9, 10, 11, 12, 13, 14, 15, 16, 17, 18, 19, 20, 21, 22, 23, 24, 25, 26, 8] : List Nat).getD k 0
theorem niS_ne : ∀ i, i < 19 → ∀ k, k < 19 → k ≠ i → niS k ≠ niS i := by decide

theorem niF_put {n k : Nat} {a : Act} {w w' : World} (d : Nat) (v : Value) (hd : k < 19 → niS k ≠ d)
    (hw : ∀ (b : Nat) (o : Obj), w.heap[b]? = some o → w'.heap[b]? = some o) (h : niF n k a w) : niF n k (a.put (some d) v) w' := by
  have hp : ∀ s, s ≠ d → (a.put (some d) v).tmps[s]? = a.tmps[s]? := fun s hs => by simp [Act.put, Array.getElem?_setIfInBounds_ne (Ne.symm hs)]
  match k, h, hd with
  | 0, h, hd => exact (hp 9 (hd (by decide))).trans h
  | 1, h, hd => exact (hp 10 (hd (by decide))).trans h
  | 2, h, hd => exact (hp 11 (hd (by decide))).trans h
  | 3, h, hd => exact (hp 12 (hd (by decide))).trans h
  | 4, h, hd => exact (hp 13 (hd (by decide))).trans h
  | 5, h, hd => exact (hp 14 (hd (by decide))).trans h
  | 6, ⟨ad, l, c, h⟩, hd => exact ⟨ad, l, c, (hp 15 (hd (by decide))).trans h⟩
  | 7, h, hd => exact (hp 16 (hd (by decide))).trans h
  | 8, h, hd => exact (hp 17 (hd (by decide))).trans h
  | 9, h, hd => exact (hp 18 (hd (by decide))).trans h
  | 10, ⟨ad, l, c, h⟩, hd => exact ⟨ad, l, c, (hp 19 (hd (by decide))).trans h⟩
  | 11, h, hd => exact (hp 20 (hd (by decide))).trans h
  | 12, ⟨ob, lb, pb, nb, cs, h, h1, h2, h3⟩, hd => exact ⟨ob, lb, pb, nb, cs, (hp 21 (hd (by decide))).trans h, hw _ _ h1, hw _ _ h2, h3⟩
  | 13, ⟨xb, h, h1⟩, hd => exact ⟨xb, (hp 22 (hd (by decide))).trans h, hw _ _ h1⟩
  | 14, h, hd => exact (hp 23 (hd (by decide))).trans h
  | 15, ⟨ad, l, c, h⟩, hd => exact ⟨ad, l, c, (hp 24 (hd (by decide))).trans h⟩
  | 16, ⟨a3, l3, c3, a4, l4, c4, a7, l7, c7, ob, lb, pb, nb, cs, h, h1, h2, h3⟩, hd => exact ⟨a3, l3, c3, a4, l4, c4, a7, l7, c7, ob, lb, pb, nb, cs, (hp 25 (hd (by decide))).trans h, hw _ _ h1, hw _ _ h2, h3⟩
  | 17, ⟨gb, a3, l3, c3, a4, l4, c4, a7, l7, c7, ob, lb, pb, nb, cs, h, h0, h1, h2, h3⟩, hd => exact ⟨gb, a3, l3, c3, a4, l4, c4, a7, l7, c7, ob, lb, pb, nb, cs, (hp 26 (hd (by decide))).trans h, hw _ _ h0, hw _ _ h1, hw _ _ h2, h3⟩
  | 18, ⟨gb, a3, l3, c3, a4, l4, c4, a7, l7, c7, ob, lb, pb, nb, cs, h, h0, h1, h2, h3⟩, hd => exact ⟨gb, a3, l3, c3, a4, l4, c4, a7, l7, c7, ob, lb, pb, nb, cs, (hp 8 (hd (by decide))).trans h, hw _ _ h0, hw _ _ h1, hw _ _ h2, h3⟩

def niG (B n : Nat) (w0 : World) (a : Act) (w : World) : Prop := a.tmps.size = 27 ∧ a.defers = [] ∧ a.tmps[0]? = some (.int .i64 n) ∧ a.tmps[1]? = some (.int .i64 0) ∧ a.tmps[2]? = some (.func (.func 18) #[] #[]) ∧ a.tmps[3]? = some (.func (.func 18) #[] #[]) ∧ Below B w0 w ∧ B ≤ w.heap.size

theorem niG_put {B n : Nat} {w0 w w' : World} {a : Act} (d : Nat) (v : Value) (hd : 3 < d) (h : niG B n w0 a w) (hw : Below B w w') (hs : B ≤ w'.heap.size) : niG B n w0 (a.put (some d) v) w' := by
  obtain ⟨h1, h2, h3, h4, h5, h6, h7, h8⟩ := h
  have hp : ∀ s, s ≠ d → (a.put (some d) v).tmps[s]? = a.tmps[s]? := fun s hs => by simp [Act.put, Array.getElem?_setIfInBounds_ne (Ne.symm hs)]
  exact ⟨by simp [Act.put, h1], by simp [Act.put, h2], (hp 0 (by omega)).trans h3, (hp 1 (by omega)).trans h4, (hp 2 (by omega)).trans h5, (hp 3 (by omega)).trans h6, h7.trans hw, hs⟩

theorem put_at' {a : Act} {d : Nat} {v : Value} (h : d < a.tmps.size) : (a.put (some d) v).tmps[d]? = some v := by simp [Act.put, h]
theorem eval_at' {a : Act} {d : Nat} {v : Value} (h : a.tmps[d]? = some v) : a.eval (.tmp d) = v := by simp [Act.eval, h]

theorem map7 {a : Act} {v0 v1 v2 v3 v4 v6 v7 : Value} (h0 : a.eval (.tmp 9) = v0) (h1 : a.eval (.tmp 10) = v1) (h2 : a.eval (.tmp 11) = v2) (h3 : a.eval (.tmp 15) = v3) (h4 : a.eval (.tmp 19) = v4) (h6 : a.eval (.tmp 21) = v6) (h7 : a.eval (.tmp 24) = v7) :
    (#[(0, Operand.tmp 9), (1, .tmp 10), (2, .tmp 11), (3, .tmp 15), (4, .tmp 19), (6, .tmp 21), (7, .tmp 24)] : Array (Nat × Operand)).map (fun (i, x) => (i, a.eval x)) = #[(0, v0), (1, v1), (2, v2), (3, v3), (4, v4), (6, v6), (7, v7)] := by
  simp [h0, h1, h2, h3, h4, h6, h7]

set_option maxHeartbeats 1000000 in
theorem newImplicit_calls (n : Nat) (w : World) (h1n : 1 ≤ n) (hn : n ≤ 2000) :
    Calls Yba.prog 17 #[.int .i64 n, .int .i64 0, .func (.func 18) #[] #[], .func (.func 18) #[] #[]] w fun e w' => ∃ gb a3 l3 c3 a4 l4 c4 a7 l7 c7 ob lb pb nb cs, e = .returned (.pointer (some ⟨gb, 0, none⟩)) ∧ Below w.heap.size w w' ∧
      Blk w' gb #[.func (.func 18) #[] #[], .func (.func 18) #[] #[], .int .i64 n, .slice a3 l3 c3, .slice a4 l4 c4, .int .i64 0, .pointer (some ⟨ob, 0, none⟩), .slice a7 l7 c7, .slice none 0 0, .bool false] 101 ∧ Blk w' ob #[.int .i64 n, .int .i64 (n + 1), .slice (some ⟨lb, 0, none⟩) (n + 2) (n + 2), .slice (some ⟨pb, 0, none⟩) (n + 2) (n + 2), .slice (some ⟨nb, 0, none⟩) (n + 2) (n + 2), .int .u64 4611686018427387904] 122 ∧ Blk w' nb cs 3 ∧ ∀ v, v < n → cs[v]? = some (.int .i64 (-1)) := by
  go_enter Yba.func17, Yba.ntmps17
  go_wp2_with fail
  refine wp_region_facts (by kernel_rfl) (by kernel_rfl) (niG w.heap.size n w) (niF n) ?_ ?_ ?_
  · exact ⟨rfl, rfl, rfl, rfl, rfl, rfl, (Below.refl _ _).drew, Nat.le_refl _⟩
  · intro i o ho l a w1 hG hF hun hd
    have hal : ∀ (o' : Obj), ∀ (b : Nat) (o : Obj), w1.heap[b]? = some o → (w1.alloc o').heap[b]? = some o := fun o' b o h => by rw [Below.heap_alloc _ _ _ (Array.getElem?_eq_some_iff.1 h).1]; exact h
    have hbw : ∀ (w2 : World), Below w1.heap.size w1 w2 → ∀ (b : Nat) (o : Obj), w1.heap[b]? = some o → w2.heap[b]? = some o := fun w2 hb b o h => (hb.block b (Array.getElem?_eq_some_iff.1 h).1).trans h
    have hid : ∀ (b : Nat) (o : Obj), w1.heap[b]? = some o → w1.heap[b]? = some o := fun _ _ h => h
    have hsz := hG.1
    have hB := hG.2.2.2.2.2.2.2
    have hBa : ∀ o', Below w.heap.size w1 (w1.alloc o') := fun o' => (Below.refl _ _).alloc hB o'
    have hBs : ∀ o', w.heap.size ≤ (w1.alloc o').heap.size := fun o' => by simp; omega
    have H0 := eval_at' hG.2.2.1
    have H1 := eval_at' hG.2.2.2.1
    have H2 := eval_at' hG.2.2.2.2.1
    have H3 := eval_at' hG.2.2.2.2.2.1
    have hmk := run_make_row' (P := Yba.prog) 26 3 (.int .i64 0) 8 Yba.underlying26 info3r rfl .i64 .i64 n (by omega) (by omega)
    match i, ho, hun, hd with
    | 0, ho, hun, hd =>
      have hop : o.op = .move (.tmp 2) := by simp at ho; subst ho; rfl
      have hds : o.dst = some 9 := by simp at ho; subst ho; rfl
      have hgd : o.guard = none := by simp at ho; subst ho; rfl
      have haf : ∀ e : Edge, e ∈ o.after → Region.binds .any e = true → niF n e.on a w1 := hd
      have hst : ∀ (v : Value) (w2 : World), (∀ (b : Nat) (o : Obj), w1.heap[b]? = some o → w2.heap[b]? = some o) → ∀ k, k ≠ 0 → l.getD k false = true → niF n k a w1 → niF n k (a.put (some 9) v) w2 := fun v w2 hw k hk _ h => niF_put _ _ (fun hk10 => niS_ne 0 (by decide) k hk10 hk) hw h
      exact wpOp_val ho hgd hds (exec_move hop H2) ⟨niG_put _ _ (by decide) hG (Below.refl _ _) hB, put_at' (by omega), hst _ _ hid⟩
    | 1, ho, hun, hd =>
      have hop : o.op = .move (.tmp 3) := by simp at ho; subst ho; rfl
      have hds : o.dst = some 10 := by simp at ho; subst ho; rfl
      have hgd : o.guard = none := by simp at ho; subst ho; rfl
      have haf : ∀ e : Edge, e ∈ o.after → Region.binds .any e = true → niF n e.on a w1 := hd
      have hst : ∀ (v : Value) (w2 : World), (∀ (b : Nat) (o : Obj), w1.heap[b]? = some o → w2.heap[b]? = some o) → ∀ k, k ≠ 1 → l.getD k false = true → niF n k a w1 → niF n k (a.put (some 10) v) w2 := fun v w2 hw k hk _ h => niF_put _ _ (fun hk10 => niS_ne 1 (by decide) k hk10 hk) hw h
      exact wpOp_val ho hgd hds (exec_move hop H3) ⟨niG_put _ _ (by decide) hG (Below.refl _ _) hB, put_at' (by omega), hst _ _ hid⟩
    | 2, ho, hun, hd =>
      have hop : o.op = .move (.tmp 0) := by simp at ho; subst ho; rfl
      have hds : o.dst = some 11 := by simp at ho; subst ho; rfl
      have hgd : o.guard = none := by simp at ho; subst ho; rfl
      have haf : ∀ e : Edge, e ∈ o.after → Region.binds .any e = true → niF n e.on a w1 := hd
      have hst : ∀ (v : Value) (w2 : World), (∀ (b : Nat) (o : Obj), w1.heap[b]? = some o → w2.heap[b]? = some o) → ∀ k, k ≠ 2 → l.getD k false = true → niF n k a w1 → niF n k (a.put (some 11) v) w2 := fun v w2 hw k hk _ h => niF_put _ _ (fun hk10 => niS_ne 2 (by decide) k hk10 hk) hw h
      exact wpOp_val ho hgd hds (exec_move hop H0) ⟨niG_put _ _ (by decide) hG (Below.refl _ _) hB, put_at' (by omega), hst _ _ hid⟩
    | 3, ho, hun, hd =>
      have hop : o.op = .move (.tmp 0) := by simp at ho; subst ho; rfl
      have hds : o.dst = some 12 := by simp at ho; subst ho; rfl
      have hgd : o.guard = none := by simp at ho; subst ho; rfl
      have haf : ∀ e : Edge, e ∈ o.after → Region.binds .any e = true → niF n e.on a w1 := hd
      have hst : ∀ (v : Value) (w2 : World), (∀ (b : Nat) (o : Obj), w1.heap[b]? = some o → w2.heap[b]? = some o) → ∀ k, k ≠ 3 → l.getD k false = true → niF n k a w1 → niF n k (a.put (some 12) v) w2 := fun v w2 hw k hk _ h => niF_put _ _ (fun hk10 => niS_ne 3 (by decide) k hk10 hk) hw h
      exact wpOp_val ho hgd hds (exec_move hop H0) ⟨niG_put _ _ (by decide) hG (Below.refl _ _) hB, put_at' (by omega), hst _ _ hid⟩
    | 4, ho, hun, hd =>
      have hop : o.op = .move (.tmp 1) := by simp at ho; subst ho; rfl
      have hds : o.dst = some 13 := by simp at ho; subst ho; rfl
      have hgd : o.guard = none := by simp at ho; subst ho; rfl
      have haf : ∀ e : Edge, e ∈ o.after → Region.binds .any e = true → niF n e.on a w1 := hd
      have hst : ∀ (v : Value) (w2 : World), (∀ (b : Nat) (o : Obj), w1.heap[b]? = some o → w2.heap[b]? = some o) → ∀ k, k ≠ 4 → l.getD k false = true → niF n k a w1 → niF n k (a.put (some 13) v) w2 := fun v w2 hw k hk _ h => niF_put _ _ (fun hk10 => niS_ne 4 (by decide) k hk10 hk) hw h
      exact wpOp_val ho hgd hds (exec_move hop H1) ⟨niG_put _ _ (by decide) hG (Below.refl _ _) hB, put_at' (by omega), hst _ _ hid⟩
    | 5, ho, hun, hd =>
      have hop : o.op = .binOp .add 3 (.tmp 12) (.tmp 13) 3 := by simp at ho; subst ho; rfl
      have hds : o.dst = some 14 := by simp at ho; subst ho; rfl
      have hgd : o.guard = none := by simp at ho; subst ho; rfl
      have haf : ∀ e : Edge, e ∈ o.after → Region.binds .any e = true → niF n e.on a w1 := hd
      have hst : ∀ (v : Value) (w2 : World), (∀ (b : Nat) (o : Obj), w1.heap[b]? = some o → w2.heap[b]? = some o) → ∀ k, k ≠ 5 → l.getD k false = true → niF n k a w1 → niF n k (a.put (some 14) v) w2 := fun v w2 hw k hk _ h => niF_put _ _ (fun hk10 => niS_ne 5 (by decide) k hk10 hk) hw h
      have hr := exec_add n 0 (.tmp 12) (.tmp 13) w1 hop (eval_at' (haf ⟨3, .data⟩ (by simp at ho; subst ho; simp) rfl)) (eval_at' (haf ⟨4, .data⟩ (by simp at ho; subst ho; simp) rfl))
      rw [show IntKind.i64.wrap ((n : Int) + 0) = (n : Int) from by rw [IntKind.wrap_i64]; omega] at hr
      exact wpOp_val ho hgd hds hr ⟨niG_put _ _ (by decide) hG (Below.refl _ _) hB, put_at' (by omega), hst _ _ hid⟩
    | 6, ho, hun, hd =>
      have hop : o.op = .makeSlice 26 (.tmp 14) (.tmp 14) := by simp at ho; subst ho; rfl
      have hds : o.dst = some 15 := by simp at ho; subst ho; rfl
      have hgd : o.guard = none := by simp at ho; subst ho; rfl
      have haf : ∀ e : Edge, e ∈ o.after → Region.binds .any e = true → niF n e.on a w1 := hd
      have hst : ∀ (v : Value) (w2 : World), (∀ (b : Nat) (o : Obj), w1.heap[b]? = some o → w2.heap[b]? = some o) → ∀ k, k ≠ 6 → l.getD k false = true → niF n k a w1 → niF n k (a.put (some 15) v) w2 := fun v w2 hw k hk _ h => niF_put _ _ (fun hk10 => niS_ne 6 (by decide) k hk10 hk) hw h
      have hv := eval_at' (haf ⟨5, .data⟩ (by simp at ho; subst ho; simp) rfl)
      exact wpOp_val ho hgd hds (exec_makeSlice hop hv hv (hmk w1)) ⟨niG_put _ _ (by decide) hG (hBa _) (hBs _), ⟨_, _, _, put_at' (by omega)⟩, hst _ _ (hal _)⟩
    | 7, ho, hun, hd =>
      have hop : o.op = .move (.tmp 0) := by simp at ho; subst ho; rfl
      have hds : o.dst = some 16 := by simp at ho; subst ho; rfl
      have hgd : o.guard = none := by simp at ho; subst ho; rfl
      have haf : ∀ e : Edge, e ∈ o.after → Region.binds .any e = true → niF n e.on a w1 := hd
      have hst : ∀ (v : Value) (w2 : World), (∀ (b : Nat) (o : Obj), w1.heap[b]? = some o → w2.heap[b]? = some o) → ∀ k, k ≠ 7 → l.getD k false = true → niF n k a w1 → niF n k (a.put (some 16) v) w2 := fun v w2 hw k hk _ h => niF_put _ _ (fun hk10 => niS_ne 7 (by decide) k hk10 hk) hw h
      exact wpOp_val ho hgd hds (exec_move hop H0) ⟨niG_put _ _ (by decide) hG (Below.refl _ _) hB, put_at' (by omega), hst _ _ hid⟩
    | 8, ho, hun, hd =>
      have hop : o.op = .move (.tmp 1) := by simp at ho; subst ho; rfl
      have hds : o.dst = some 17 := by simp at ho; subst ho; rfl
      have hgd : o.guard = none := by simp at ho; subst ho; rfl
      have haf : ∀ e : Edge, e ∈ o.after → Region.binds .any e = true → niF n e.on a w1 := hd
      have hst : ∀ (v : Value) (w2 : World), (∀ (b : Nat) (o : Obj), w1.heap[b]? = some o → w2.heap[b]? = some o) → ∀ k, k ≠ 8 → l.getD k false = true → niF n k a w1 → niF n k (a.put (some 17) v) w2 := fun v w2 hw k hk _ h => niF_put _ _ (fun hk10 => niS_ne 8 (by decide) k hk10 hk) hw h
      exact wpOp_val ho hgd hds (exec_move hop H1) ⟨niG_put _ _ (by decide) hG (Below.refl _ _) hB, put_at' (by omega), hst _ _ hid⟩
    | 9, ho, hun, hd =>
      have hop : o.op = .binOp .add 3 (.tmp 16) (.tmp 17) 3 := by simp at ho; subst ho; rfl
      have hds : o.dst = some 18 := by simp at ho; subst ho; rfl
      have hgd : o.guard = none := by simp at ho; subst ho; rfl
      have haf : ∀ e : Edge, e ∈ o.after → Region.binds .any e = true → niF n e.on a w1 := hd
      have hst : ∀ (v : Value) (w2 : World), (∀ (b : Nat) (o : Obj), w1.heap[b]? = some o → w2.heap[b]? = some o) → ∀ k, k ≠ 9 → l.getD k false = true → niF n k a w1 → niF n k (a.put (some 18) v) w2 := fun v w2 hw k hk _ h => niF_put _ _ (fun hk10 => niS_ne 9 (by decide) k hk10 hk) hw h
      have hr := exec_add n 0 (.tmp 16) (.tmp 17) w1 hop (eval_at' (haf ⟨7, .data⟩ (by simp at ho; subst ho; simp) rfl)) (eval_at' (haf ⟨8, .data⟩ (by simp at ho; subst ho; simp) rfl))
      rw [show IntKind.i64.wrap ((n : Int) + 0) = (n : Int) from by rw [IntKind.wrap_i64]; omega] at hr
      exact wpOp_val ho hgd hds hr ⟨niG_put _ _ (by decide) hG (Below.refl _ _) hB, put_at' (by omega), hst _ _ hid⟩
    | 10, ho, hun, hd =>
      have hop : o.op = .makeSlice 26 (.tmp 18) (.tmp 18) := by simp at ho; subst ho; rfl
      have hds : o.dst = some 19 := by simp at ho; subst ho; rfl
      have hgd : o.guard = none := by simp at ho; subst ho; rfl
      have haf : ∀ e : Edge, e ∈ o.after → Region.binds .any e = true → niF n e.on a w1 := hd
      have hst : ∀ (v : Value) (w2 : World), (∀ (b : Nat) (o : Obj), w1.heap[b]? = some o → w2.heap[b]? = some o) → ∀ k, k ≠ 10 → l.getD k false = true → niF n k a w1 → niF n k (a.put (some 19) v) w2 := fun v w2 hw k hk _ h => niF_put _ _ (fun hk10 => niS_ne 10 (by decide) k hk10 hk) hw h
      have hv := eval_at' (haf ⟨9, .data⟩ (by simp at ho; subst ho; simp) rfl)
      exact wpOp_val ho hgd hds (exec_makeSlice hop hv hv (hmk w1)) ⟨niG_put _ _ (by decide) hG (hBa _) (hBs _), ⟨_, _, _, put_at' (by omega)⟩, hst _ _ (hal _)⟩
    | 11, ho, hun, hd =>
      have hop : o.op = .move (.tmp 0) := by simp at ho; subst ho; rfl
      have hds : o.dst = some 20 := by simp at ho; subst ho; rfl
      have hgd : o.guard = none := by simp at ho; subst ho; rfl
      have haf : ∀ e : Edge, e ∈ o.after → Region.binds .any e = true → niF n e.on a w1 := hd
      have hst : ∀ (v : Value) (w2 : World), (∀ (b : Nat) (o : Obj), w1.heap[b]? = some o → w2.heap[b]? = some o) → ∀ k, k ≠ 11 → l.getD k false = true → niF n k a w1 → niF n k (a.put (some 20) v) w2 := fun v w2 hw k hk _ h => niF_put _ _ (fun hk10 => niS_ne 11 (by decide) k hk10 hk) hw h
      exact wpOp_val ho hgd hds (exec_move hop H0) ⟨niG_put _ _ (by decide) hG (Below.refl _ _) hB, put_at' (by omega), hst _ _ hid⟩
    | 12, ho, hun, hd =>
      have hop : o.op = .call { callee := .value (.func 32), args := #[.tmp 20, .const (.int .u64 4611686018427387904)], argTypes := #[3, 22] } := by simp at ho; subst ho; rfl
      have hds : o.dst = some 21 := by simp at ho; subst ho; rfl
      have hgd : o.guard = none := by simp at ho; subst ho; rfl
      have haf : ∀ e : Edge, e ∈ o.after → Region.binds .any e = true → niF n e.on a w1 := hd
      have hst : ∀ (v : Value) (w2 : World), (∀ (b : Nat) (o : Obj), w1.heap[b]? = some o → w2.heap[b]? = some o) → ∀ k, k ≠ 12 → l.getD k false = true → niF n k a w1 → niF n k (a.put (some 21) v) w2 := fun v w2 hw k hk _ h => niF_put _ _ (fun hk10 => niS_ne 12 (by decide) k hk10 hk) hw h
      refine wpOp_call ho hgd hds (exec_call32 w1 hop rfl (eval_at' (haf ⟨11, .data⟩ (by simp at ho; subst ho; simp) rfl)) rfl) ((newOrder_calls n w1 hn).mono ?_)
      rintro e w2 ⟨ob, lb, pb, nb, cs, rfl, hb, q1, q2, q3, q4, q5⟩
      exact ⟨_, rfl, niG_put _ _ (by decide) hG (hb.mono hB) (Nat.le_trans hB hb.size), ⟨ob, lb, pb, nb, cs, put_at' (by omega), q3, q4, q5⟩, hst _ _ (hbw _ hb)⟩
    | 13, ho, hun, hd =>
      have hop : o.op = .buildSlice 26 1 #[(0, .const (.int .i64 (-1)))] := by simp at ho; subst ho; rfl
      have hds : o.dst = some 22 := by simp at ho; subst ho; rfl
      have hgd : o.guard = none := by simp at ho; subst ho; rfl
      have haf : ∀ e : Edge, e ∈ o.after → Region.binds .any e = true → niF n e.on a w1 := hd
      have hst : ∀ (v : Value) (w2 : World), (∀ (b : Nat) (o : Obj), w1.heap[b]? = some o → w2.heap[b]? = some o) → ∀ k, k ≠ 13 → l.getD k false = true → niF n k a w1 → niF n k (a.put (some 22) v) w2 := fun v w2 hw k hk _ h => niF_put _ _ (fun hk10 => niS_ne 13 (by decide) k hk10 hk) hw h
      exact wpOp_val ho hgd hds (exec_buildSlice hop (show (#[(0, Operand.const (.int .i64 (-1)))].map (fun (i, x) => (i, a.eval x))) = #[(0, .int .i64 (-1))] from by simp [Act.eval]) (buildS26 w1)) ⟨niG_put _ _ (by decide) hG (hBa _) (hBs _), ⟨_, put_at' (by omega), Blk.new _ _ _⟩, hst _ _ (hal _)⟩
    | 14, ho, hun, hd =>
      have hop : o.op = .move (.tmp 0) := by simp at ho; subst ho; rfl
      have hds : o.dst = some 23 := by simp at ho; subst ho; rfl
      have hgd : o.guard = none := by simp at ho; subst ho; rfl
      have haf : ∀ e : Edge, e ∈ o.after → Region.binds .any e = true → niF n e.on a w1 := hd
      have hst : ∀ (v : Value) (w2 : World), (∀ (b : Nat) (o : Obj), w1.heap[b]? = some o → w2.heap[b]? = some o) → ∀ k, k ≠ 14 → l.getD k false = true → niF n k a w1 → niF n k (a.put (some 23) v) w2 := fun v w2 hw k hk _ h => niF_put _ _ (fun hk10 => niS_ne 14 (by decide) k hk10 hk) hw h
      exact wpOp_val ho hgd hds (exec_move hop H0) ⟨niG_put _ _ (by decide) hG (Below.refl _ _) hB, put_at' (by omega), hst _ _ hid⟩
    | 15, ho, hun, hd =>
      have hop : o.op = .call { callee := .value (.func 33), args := #[.tmp 22, .tmp 23], argTypes := #[26, 3] } := by simp at ho; subst ho; rfl
      have hds : o.dst = some 24 := by simp at ho; subst ho; rfl
      have hgd : o.guard = none := by simp at ho; subst ho; rfl
      have haf : ∀ e : Edge, e ∈ o.after → Region.binds .any e = true → niF n e.on a w1 := hd
      have hst : ∀ (v : Value) (w2 : World), (∀ (b : Nat) (o : Obj), w1.heap[b]? = some o → w2.heap[b]? = some o) → ∀ k, k ≠ 15 → l.getD k false = true → niF n k a w1 → niF n k (a.put (some 24) v) w2 := fun v w2 hw k hk _ h => niF_put _ _ (fun hk10 => niS_ne 15 (by decide) k hk10 hk) hw h
      obtain ⟨xb, q1, q2⟩ := (haf ⟨13, .data⟩ (by simp at ho; subst ho; simp) rfl)
      refine wpOp_call ho hgd hds (exec_call33 w1 hop rfl (eval_at' q1) (eval_at' (haf ⟨14, .data⟩ (by simp at ho; subst ho; simp) rfl))) ((repeat_calls xb n w1 h1n hn q2).mono ?_)
      rintro e w2 ⟨ad, l', c', rfl, hb⟩
      exact ⟨_, rfl, niG_put _ _ (by decide) hG (hb.mono hB) (Nat.le_trans hB hb.size), ⟨_, _, _, put_at' (by omega)⟩, hst _ _ (hbw _ hb)⟩
    | 16, ho, hun, hd =>
      have hop : o.op = .build 101 #[(0, .tmp 9), (1, .tmp 10), (2, .tmp 11), (3, .tmp 15), (4, .tmp 19), (6, .tmp 21), (7, .tmp 24)] := by simp at ho; subst ho; rfl
      have hds : o.dst = some 25 := by simp at ho; subst ho; rfl
      have hgd : o.guard = none := by simp at ho; subst ho; rfl
      have haf : ∀ e : Edge, e ∈ o.after → Region.binds .any e = true → niF n e.on a w1 := hd
      have hst : ∀ (v : Value) (w2 : World), (∀ (b : Nat) (o : Obj), w1.heap[b]? = some o → w2.heap[b]? = some o) → ∀ k, k ≠ 16 → l.getD k false = true → niF n k a w1 → niF n k (a.put (some 25) v) w2 := fun v w2 hw k hk _ h => niF_put _ _ (fun hk10 => niS_ne 16 (by decide) k hk10 hk) hw h
      have q0 : a.tmps[9]? = some (.func (.func 18) #[] #[]) := (haf ⟨0, .data⟩ (by simp at ho; subst ho; simp) rfl)
      have q1 : a.tmps[10]? = some (.func (.func 18) #[] #[]) := (haf ⟨1, .data⟩ (by simp at ho; subst ho; simp) rfl)
      have q2 : a.tmps[11]? = some (.int .i64 n) := (haf ⟨2, .data⟩ (by simp at ho; subst ho; simp) rfl)
      obtain ⟨a3, l3, c3, q3⟩ := (haf ⟨6, .data⟩ (by simp at ho; subst ho; simp) rfl)
      obtain ⟨a4, l4, c4, q4⟩ := (haf ⟨10, .data⟩ (by simp at ho; subst ho; simp) rfl)
      obtain ⟨ob, lb, pb, nb, cs, q6, r1, r2, r3⟩ := (haf ⟨12, .data⟩ (by simp at ho; subst ho; simp) rfl)
      obtain ⟨a7, l7, c7, q7⟩ := (haf ⟨15, .data⟩ (by simp at ho; subst ho; simp) rfl)
      have hps := map7 (eval_at' q0) (eval_at' q1) (eval_at' q2) (eval_at' q3) (eval_at' q4) (eval_at' q6) (eval_at' q7)
      exact wpOp_val ho hgd hds (exec_build hop hps (build101 _ _ _ _ _ _ _ _ _ _ _ _)) ⟨niG_put _ _ (by decide) hG (Below.refl _ _) hB, ⟨_, _, _, _, _, _, _, _, _, _, _, _, _, _, put_at' (by omega), r1, r2, r3⟩, hst _ _ hid⟩
    | 17, ho, hun, hd =>
      have hop : o.op = .box 101 (.tmp 25) := by simp at ho; subst ho; rfl
      have hds : o.dst = some 26 := by simp at ho; subst ho; rfl
      have hgd : o.guard = none := by simp at ho; subst ho; rfl
      have haf : ∀ e : Edge, e ∈ o.after → Region.binds .any e = true → niF n e.on a w1 := hd
      have hst : ∀ (v : Value) (w2 : World), (∀ (b : Nat) (o : Obj), w1.heap[b]? = some o → w2.heap[b]? = some o) → ∀ k, k ≠ 17 → l.getD k false = true → niF n k a w1 → niF n k (a.put (some 26) v) w2 := fun v w2 hw k hk _ h => niF_put _ _ (fun hk10 => niS_ne 17 (by decide) k hk10 hk) hw h
      obtain ⟨a3, l3, c3, a4, l4, c4, a7, l7, c7, ob, lb, pb, nb, cs, q1, r1, r2, r3⟩ := (haf ⟨16, .data⟩ (by simp at ho; subst ho; simp) rfl)
      exact wpOp_val ho hgd hds (exec_box hop (eval_at' q1) rfl) ⟨niG_put _ _ (by decide) hG (hBa _) (hBs _), ⟨_, _, _, _, _, _, _, _, _, _, _, _, _, _, _, put_at' (by omega), Blk.new _ _ _, hal _ _ _ r1, hal _ _ _ r2, r3⟩, hst _ _ (hal _)⟩
    | 18, ho, hun, hd =>
      have hop : o.op = .assign (.tmp 26) := by simp at ho; subst ho; rfl
      have hds : o.dst = some 8 := by simp at ho; subst ho; rfl
      have hgd : o.guard = none := by simp at ho; subst ho; rfl
      have haf : ∀ e : Edge, e ∈ o.after → Region.binds .any e = true → niF n e.on a w1 := hd
      have hst : ∀ (v : Value) (w2 : World), (∀ (b : Nat) (o : Obj), w1.heap[b]? = some o → w2.heap[b]? = some o) → ∀ k, k ≠ 18 → l.getD k false = true → niF n k a w1 → niF n k (a.put (some 8) v) w2 := fun v w2 hw k hk _ h => niF_put _ _ (fun hk10 => niS_ne 18 (by decide) k hk10 hk) hw h
      obtain ⟨gb, a3, l3, c3, a4, l4, c4, a7, l7, c7, ob, lb, pb, nb, cs, q1, r0, r1, r2, r3⟩ := (haf ⟨17, .data⟩ (by simp at ho; subst ho; simp) rfl)
      exact wpOp_val ho hgd hds (exec_assign hop (eval_at' q1)) ⟨niG_put _ _ (by decide) hG (Below.refl _ _) hB, ⟨_, _, _, _, _, _, _, _, _, _, _, _, _, _, _, put_at' (by omega), r0, r1, r2, r3⟩, hst _ _ hid⟩
    | i + 19, ho, hun, hd => simp at ho
  · intro a w1 hG hF
    obtain ⟨gb, a3, l3, c3, a4, l4, c4, a7, l7, c7, ob, lb, pb, nb, cs, q1, r0, r1, r2, r3⟩ := hF 18 (by simp)
    obtain ⟨tmps, defers⟩ := a
    have hdf : defers = [] := hG.2.1
    subst hdf
    rename_i hk
    apply hk
    refine wp_ret ?_
    refine bodyPost_ret (v := .pointer (some ⟨gb, 0, none⟩)) ?_ rfl ⟨gb, a3, l3, c3, a4, l4, c4, a7, l7, c7, ob, lb, pb, nb, cs, rfl, hG.2.2.2.2.2.2.1, r0, r1, r2, r3⟩
    rw [results_tmp (t := 8) rfl]
    have q1' : tmps[8]? = some (.pointer (some ⟨gb, 0, none⟩)) := q1
    simp [q1']

end Go.Proofs.Ybulkuoc
