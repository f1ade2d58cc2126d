/- newMaker's contract: its one region draws the order of five makes. -/
import Derived.Test.YbulkuocRows
import Derived.WalkKit
import Derived.WalkSpells
import Derived.WalkLawsBesides
import Derived.Test.YbulkuocRegInv
namespace Go.Proofs.Ybulkuoc
open Go.RowKit

theorem build62 (m0 m3 m7 : Option Nat) (a5 a6 : Option Addr) (l5 c5 l6 c6 : Nat) (w : World) :
    (Instr.build 62 #[(0, .map m0), (3, .map m3), (7, .map m7), (5, .slice a5 l5 c5), (6, .slice a6 l6 c6)]).run Yba.prog w =
      .ok (.agg #[.map m0, .slice none 0 0, .slice none 0 0, .map m3, .slice none 0 0, .slice a5 l5 c5, .slice a6 l6 c6, .map m7, .slice none 0 0, .slice none 0 0, .map none]) w :=
  run_build w 62 _ _ (by kernel_rfl)
theorem info3 : (Yba.prog.info? 3).map (fun i => (i.zero, i.size, i.bytes)) = some (some (.int .i64 0), 1, 8) := by kernel_rfl

/-- What operation k of newMaker's one drawn region leaves. -/
def nmF (B : Nat) (n : Nat) (k : Nat) (a : Act) (w : World) : Prop :=
  match k with
  | 0 => ∃ m, a.tmps[3]? = some (.map (some m))
  | 1 => ∃ m, a.tmps[4]? = some (.map (some m)) ∧ B ≤ m ∧ w.heap[m]? = some (.map #[] 0)
  | 2 => ∃ m, a.tmps[5]? = some (.map (some m))
  | 3 => a.tmps[6]? = some (.int .i64 n)
  | 4 => ∃ ad l c, a.tmps[7]? = some (.slice ad l c)
  | 5 => a.tmps[8]? = some (.int .i64 n)
  | 6 => ∃ ad l c, a.tmps[9]? = some (.slice ad l c)
  | 7 => ∃ m0 bm m7 a5 l5 c5 a6 l6 c6, a.tmps[10]? = some (.agg #[.map m0, .slice none 0 0, .slice none 0 0, .map (some bm), .slice none 0 0, .slice a5 l5 c5, .slice a6 l6 c6, .map m7, .slice none 0 0, .slice none 0 0, .map none])
      ∧ B ≤ bm ∧ w.heap[bm]? = some (.map #[] 0)
  | 8 => ∃ mb m0 bm m7 a5 l5 c5 a6 l6 c6, a.tmps[11]? = some (.pointer (some ⟨mb, 0, none⟩)) ∧ B ≤ mb ∧ B ≤ bm ∧ w.heap[bm]? = some (.map #[] 0) ∧
      w.heap[mb]? = some (.cells #[.map m0, .slice none 0 0, .slice none 0 0, .map (some bm), .slice none 0 0, .slice a5 l5 c5, .slice a6 l6 c6, .map m7, .slice none 0 0, .slice none 0 0, .map none] 62 (0, 0))
  | 9 => ∃ mb m0 bm m7 a5 l5 c5 a6 l6 c6, a.tmps[2]? = some (.pointer (some ⟨mb, 0, none⟩)) ∧ B ≤ mb ∧ B ≤ bm ∧ w.heap[bm]? = some (.map #[] 0) ∧
      w.heap[mb]? = some (.cells #[.map m0, .slice none 0 0, .slice none 0 0, .map (some bm), .slice none 0 0, .slice a5 l5 c5, .slice a6 l6 c6, .map m7, .slice none 0 0, .slice none 0 0, .map none] 62 (0, 0))
  | _ => False

theorem heap_alloc_keep {w : World} {k : Nat} {o : Obj} (o' : Obj) (h : w.heap[k]? = some o) : (w.alloc o').heap[k]? = some o := by
  rw [Below.heap_alloc _ _ _ (Array.getElem?_eq_some_iff.1 h).1]; exact h

def nmS (k : Nat) : Nat := ([3, 4, 5, 6, 7, 8, 9, 10, 11, 2] : List Nat).getD k 0
theorem nmS_ne : ∀ i, i < 10 → ∀ k, k < 10 → k ≠ i → nmS k ≠ nmS i := by decide

theorem nmF_put {B n k : Nat} {a : Act} {w w' : World} (d : Nat) (v : Value) (hd : k < 10 → nmS k ≠ d)
    (hw : ∀ (b : Nat) (o : Obj), w.heap[b]? = some o → w'.heap[b]? = some o) (h : nmF B n k a w) : nmF B n k (a.put (some d) v) w' := by
  have hp : ∀ s, s ≠ d → (a.put (some d) v).tmps[s]? = a.tmps[s]? := fun s hs => by simp [Act.put, Array.getElem?_setIfInBounds_ne (Ne.symm hs)]
  match k, h, hd with
  | 0, ⟨m, h⟩, hd => exact ⟨m, by rw [hp 3 (hd (by decide))]; exact h⟩
  | 1, ⟨m, h, h1, h2⟩, hd => exact ⟨m, by rw [hp 4 (hd (by decide))]; exact h, h1, hw _ _ h2⟩
  | 2, ⟨m, h⟩, hd => exact ⟨m, by rw [hp 5 (hd (by decide))]; exact h⟩
  | 3, h, hd => show _ = _; rw [hp 6 (hd (by decide))]; exact h
  | 4, ⟨ad, l, c, h⟩, hd => exact ⟨ad, l, c, by rw [hp 7 (hd (by decide))]; exact h⟩
  | 5, h, hd => show _ = _; rw [hp 8 (hd (by decide))]; exact h
  | 6, ⟨ad, l, c, h⟩, hd => exact ⟨ad, l, c, by rw [hp 9 (hd (by decide))]; exact h⟩
  | 7, ⟨m0, bm, m7, a5, l5, c5, a6, l6, c6, h, h1, h2⟩, hd => exact ⟨m0, bm, m7, a5, l5, c5, a6, l6, c6, by rw [hp 10 (hd (by decide))]; exact h, h1, hw _ _ h2⟩
  | 8, ⟨mb, m0, bm, m7, a5, l5, c5, a6, l6, c6, h, h1, h2, h3, h4⟩, hd => exact ⟨mb, m0, bm, m7, a5, l5, c5, a6, l6, c6, by rw [hp 11 (hd (by decide))]; exact h, h1, h2, hw _ _ h3, hw _ _ h4⟩
  | 9, ⟨mb, m0, bm, m7, a5, l5, c5, a6, l6, c6, h, h1, h2, h3, h4⟩, hd => exact ⟨mb, m0, bm, m7, a5, l5, c5, a6, l6, c6, by rw [hp 2 (hd (by decide))]; exact h, h1, h2, hw _ _ h3, hw _ _ h4⟩

def nmG (B n : Nat) (w0 : World) (a : Act) (w : World) : Prop := a.tmps.size = 12 ∧ a.defers = [] ∧ a.tmps[0]? = some (.int .i64 n) ∧ Below B w0 w ∧ B ≤ w.heap.size

theorem nmG_put {B n : Nat} {w0 w w' : World} {a : Act} (d : Nat) (v : Value) (hd : d ≠ 0) (h : nmG B n w0 a w) (hw : Below B w w') (hs : B ≤ w'.heap.size) : nmG B n w0 (a.put (some d) v) w' := by
  obtain ⟨h1, h2, h3, h4, h5⟩ := h
  refine ⟨by simp [Act.put, h1], by simp [Act.put, h2], by simp [Act.put, Array.getElem?_setIfInBounds_ne hd, h3], h4.trans hw, hs⟩

theorem put_at {a : Act} {d : Nat} {v : Value} (h : d < a.tmps.size) : (a.put (some d) v).tmps[d]? = some v := by simp [Act.put, h]
theorem eval_at {a : Act} {d : Nat} {v : Value} (h : a.tmps[d]? = some v) : a.eval (.tmp d) = v := by simp [Act.eval, h]

set_option maxHeartbeats 400000 in
theorem newMaker_calls (n : Nat) (w : World) (hn : n ≤ 1024) :
    Calls Yba.prog 14 #[.int .i64 n] w fun e w' => ∃ mb m0 bm m7 a5 l5 c5 a6 l6 c6, e = .returned (.pointer (some ⟨mb, 0, none⟩)) ∧ Below w.heap.size w w' ∧ w.heap.size ≤ mb ∧ w.heap.size ≤ bm ∧ w'.heap[bm]? = some (Obj.map #[] 0) ∧
      w'.heap[mb]? = some (.cells #[.map m0, .slice none 0 0, .slice none 0 0, .map (some bm), .slice none 0 0, .slice a5 l5 c5, .slice a6 l6 c6, .map m7, .slice none 0 0, .slice none 0 0, .map none] 62 (0, 0)) := by
  obtain ⟨i0, hi, hz0, hz1, hz2⟩ := info_parts info3
  go_enter Yba.func14, Yba.ntmps14
  go_wp2
  refine wp_region_facts (by kernel_rfl) (by kernel_rfl) (nmG w.heap.size n w) (nmF w.heap.size n) ?_ ?_ ?_
  · exact ⟨rfl, rfl, rfl, (Below.refl _ _).drew, Nat.le_refl _⟩
  · intro i o ho l a w1 hG hF hun hd
    have hal : ∀ (o' : Obj), ∀ b o, w1.heap[b]? = some o → (w1.alloc o').heap[b]? = some o := fun o' b o h => heap_alloc_keep o' h
    have hsz := hG.1
    have hBa : ∀ o', Below w.heap.size w1 (w1.alloc o') := fun o' => (Below.refl _ _).alloc hG.2.2.2.2 o'
    have hBs : ∀ o', w.heap.size ≤ (w1.alloc o').heap.size := fun o' => by have := hG.2.2.2.2; simp; omega
    have H0 := eval_at hG.2.2.1
    have hid : ∀ (b : Nat) (o : Obj), w1.heap[b]? = some o → w1.heap[b]? = some o := fun _ _ h => h
    match i, ho, hun, hd with
    | 0, ho, hun, hd =>
      have hop : o.op = .makeMap 58 none := by simp at ho; subst ho; rfl
      have hds : o.dst = some 3 := by simp at ho; subst ho; rfl
      have hgd : o.guard = none := by simp at ho; subst ho; rfl
      have haf : ∀ e : Edge, e ∈ o.after → Region.binds .any e = true → nmF w.heap.size n e.on a w1 := hd
      have hst : ∀ (v : Value) (w2 : World), (∀ (b : Nat) (o : Obj), w1.heap[b]? = some o → w2.heap[b]? = some o) → ∀ k, k ≠ 0 → l.getD k false = true → nmF w.heap.size n k a w1 → nmF w.heap.size n k (a.put (some 3) v) w2 := fun v w2 hw k hk _ h => nmF_put _ _ (fun hk10 => nmS_ne 0 (by decide) k hk10 hk) hw h
      exact wpOp_val ho hgd hds (exec_makeMap hop) ⟨nmG_put _ _ (by decide) hG (hBa _) (hBs _), ⟨_, put_at (by omega)⟩, hst _ _ (hal _)⟩
    | 1, ho, hun, hd =>
      have hop : o.op = .makeMap 59 none := by simp at ho; subst ho; rfl
      have hds : o.dst = some 4 := by simp at ho; subst ho; rfl
      have hgd : o.guard = none := by simp at ho; subst ho; rfl
      have haf : ∀ e : Edge, e ∈ o.after → Region.binds .any e = true → nmF w.heap.size n e.on a w1 := hd
      have hst : ∀ (v : Value) (w2 : World), (∀ (b : Nat) (o : Obj), w1.heap[b]? = some o → w2.heap[b]? = some o) → ∀ k, k ≠ 1 → l.getD k false = true → nmF w.heap.size n k a w1 → nmF w.heap.size n k (a.put (some 4) v) w2 := fun v w2 hw k hk _ h => nmF_put _ _ (fun hk10 => nmS_ne 1 (by decide) k hk10 hk) hw h
      exact wpOp_val ho hgd hds (exec_makeMap hop) ⟨nmG_put _ _ (by decide) hG (hBa _) (hBs _), ⟨_, put_at (by omega), hG.2.2.2.2, heap_alloc_new _ _⟩, hst _ _ (hal _)⟩
    | 2, ho, hun, hd =>
      have hop : o.op = .makeMap 59 none := by simp at ho; subst ho; rfl
      have hds : o.dst = some 5 := by simp at ho; subst ho; rfl
      have hgd : o.guard = none := by simp at ho; subst ho; rfl
      have haf : ∀ e : Edge, e ∈ o.after → Region.binds .any e = true → nmF w.heap.size n e.on a w1 := hd
      have hst : ∀ (v : Value) (w2 : World), (∀ (b : Nat) (o : Obj), w1.heap[b]? = some o → w2.heap[b]? = some o) → ∀ k, k ≠ 2 → l.getD k false = true → nmF w.heap.size n k a w1 → nmF w.heap.size n k (a.put (some 5) v) w2 := fun v w2 hw k hk _ h => nmF_put _ _ (fun hk10 => nmS_ne 2 (by decide) k hk10 hk) hw h
      exact wpOp_val ho hgd hds (exec_makeMap hop) ⟨nmG_put _ _ (by decide) hG (hBa _) (hBs _), ⟨_, put_at (by omega)⟩, hst _ _ (hal _)⟩
    | 3, ho, hun, hd =>
      have hop : o.op = .move (.tmp 0) := by simp at ho; subst ho; rfl
      have hds : o.dst = some 6 := by simp at ho; subst ho; rfl
      have hgd : o.guard = none := by simp at ho; subst ho; rfl
      have haf : ∀ e : Edge, e ∈ o.after → Region.binds .any e = true → nmF w.heap.size n e.on a w1 := hd
      have hst : ∀ (v : Value) (w2 : World), (∀ (b : Nat) (o : Obj), w1.heap[b]? = some o → w2.heap[b]? = some o) → ∀ k, k ≠ 3 → l.getD k false = true → nmF w.heap.size n k a w1 → nmF w.heap.size n k (a.put (some 6) v) w2 := fun v w2 hw k hk _ h => nmF_put _ _ (fun hk10 => nmS_ne 3 (by decide) k hk10 hk) hw h
      exact wpOp_val ho hgd hds (exec_move hop H0) ⟨nmG_put _ _ (by decide) hG (Below.refl _ _) hG.2.2.2.2, put_at (by omega), hst _ _ hid⟩
    | 4, ho, hun, hd =>
      have hop : o.op = .makeSlice 26 (.const (.int .i64 0)) (.tmp 6) := by simp at ho; subst ho; rfl
      have hds : o.dst = some 7 := by simp at ho; subst ho; rfl
      have hgd : o.guard = none := by simp at ho; subst ho; rfl
      have haf : ∀ e : Edge, e ∈ o.after → Region.binds .any e = true → nmF w.heap.size n e.on a w1 := hd
      have hst : ∀ (v : Value) (w2 : World), (∀ (b : Nat) (o : Obj), w1.heap[b]? = some o → w2.heap[b]? = some o) → ∀ k, k ≠ 4 → l.getD k false = true → nmF w.heap.size n k a w1 → nmF w.heap.size n k (a.put (some 7) v) w2 := fun v w2 hw k hk _ h => nmF_put _ _ (fun hk10 => nmS_ne 4 (by decide) k hk10 hk) hw h
      have H6 : a.eval (.tmp 6) = .int .i64 n := eval_at (haf ⟨3, .data⟩ (by simp at ho; subst ho; simp) rfl)
      have hmk := run_make (P := Yba.prog) w1 26 3 i0 (.int .i64 0) Yba.underlying26 hi hz0 .i64 .i64 0 n (by omega) (by omega) (by rw [hz2]; omega) (by omega)
      exact wpOp_val ho hgd hds (exec_makeSlice hop rfl H6 hmk) ⟨nmG_put _ _ (by decide) hG (hBa _) (hBs _), ⟨_, _, _, put_at (by omega)⟩, hst _ _ (hal _)⟩
    | 5, ho, hun, hd =>
      have hop : o.op = .move (.tmp 0) := by simp at ho; subst ho; rfl
      have hds : o.dst = some 8 := by simp at ho; subst ho; rfl
      have hgd : o.guard = none := by simp at ho; subst ho; rfl
      have haf : ∀ e : Edge, e ∈ o.after → Region.binds .any e = true → nmF w.heap.size n e.on a w1 := hd
      have hst : ∀ (v : Value) (w2 : World), (∀ (b : Nat) (o : Obj), w1.heap[b]? = some o → w2.heap[b]? = some o) → ∀ k, k ≠ 5 → l.getD k false = true → nmF w.heap.size n k a w1 → nmF w.heap.size n k (a.put (some 8) v) w2 := fun v w2 hw k hk _ h => nmF_put _ _ (fun hk10 => nmS_ne 5 (by decide) k hk10 hk) hw h
      exact wpOp_val ho hgd hds (exec_move hop H0) ⟨nmG_put _ _ (by decide) hG (Below.refl _ _) hG.2.2.2.2, put_at (by omega), hst _ _ hid⟩
    | 6, ho, hun, hd =>
      have hop : o.op = .makeSlice 26 (.const (.int .i64 0)) (.tmp 8) := by simp at ho; subst ho; rfl
      have hds : o.dst = some 9 := by simp at ho; subst ho; rfl
      have hgd : o.guard = none := by simp at ho; subst ho; rfl
      have haf : ∀ e : Edge, e ∈ o.after → Region.binds .any e = true → nmF w.heap.size n e.on a w1 := hd
      have hst : ∀ (v : Value) (w2 : World), (∀ (b : Nat) (o : Obj), w1.heap[b]? = some o → w2.heap[b]? = some o) → ∀ k, k ≠ 6 → l.getD k false = true → nmF w.heap.size n k a w1 → nmF w.heap.size n k (a.put (some 9) v) w2 := fun v w2 hw k hk _ h => nmF_put _ _ (fun hk10 => nmS_ne 6 (by decide) k hk10 hk) hw h
      have H6 : a.eval (.tmp 8) = .int .i64 n := eval_at (haf ⟨5, .data⟩ (by simp at ho; subst ho; simp) rfl)
      have hmk := run_make (P := Yba.prog) w1 26 3 i0 (.int .i64 0) Yba.underlying26 hi hz0 .i64 .i64 0 n (by omega) (by omega) (by rw [hz2]; omega) (by omega)
      exact wpOp_val ho hgd hds (exec_makeSlice hop rfl H6 hmk) ⟨nmG_put _ _ (by decide) hG (hBa _) (hBs _), ⟨_, _, _, put_at (by omega)⟩, hst _ _ (hal _)⟩
    | 7, ho, hun, hd =>
      have hop : o.op = .build 62 #[(0, .tmp 3), (3, .tmp 4), (7, .tmp 5), (5, .tmp 7), (6, .tmp 9)] := by simp at ho; subst ho; rfl
      have hds : o.dst = some 10 := by simp at ho; subst ho; rfl
      have hgd : o.guard = none := by simp at ho; subst ho; rfl
      have haf : ∀ e : Edge, e ∈ o.after → Region.binds .any e = true → nmF w.heap.size n e.on a w1 := hd
      have hst : ∀ (v : Value) (w2 : World), (∀ (b : Nat) (o : Obj), w1.heap[b]? = some o → w2.heap[b]? = some o) → ∀ k, k ≠ 7 → l.getD k false = true → nmF w.heap.size n k a w1 → nmF w.heap.size n k (a.put (some 10) v) w2 := fun v w2 hw k hk _ h => nmF_put _ _ (fun hk10 => nmS_ne 7 (by decide) k hk10 hk) hw h
      obtain ⟨m0, q0⟩ := (haf ⟨0, .data⟩ (by simp at ho; subst ho; simp) rfl)
      obtain ⟨bm, q1, q2, q3⟩ := (haf ⟨1, .data⟩ (by simp at ho; subst ho; simp) rfl)
      obtain ⟨m7, q4⟩ := (haf ⟨2, .data⟩ (by simp at ho; subst ho; simp) rfl)
      obtain ⟨a5, l5, c5, q5⟩ := (haf ⟨4, .data⟩ (by simp at ho; subst ho; simp) rfl)
      obtain ⟨a6, l6, c6, q6⟩ := (haf ⟨6, .data⟩ (by simp at ho; subst ho; simp) rfl)
      have hps : #[(0, Operand.tmp 3), (3, .tmp 4), (7, .tmp 5), (5, .tmp 7), (6, .tmp 9)].map (fun (i, x) => (i, a.eval x)) = #[(0, .map (some m0)), (3, .map (some bm)), (7, .map (some m7)), (5, .slice a5 l5 c5), (6, .slice a6 l6 c6)] := by
        simp [eval_at q0, eval_at q1, eval_at q4, eval_at q5, eval_at q6]
      exact wpOp_val ho hgd hds (exec_build hop hps (build62 _ _ _ _ _ _ _ _ _ _)) ⟨nmG_put _ _ (by decide) hG (Below.refl _ _) hG.2.2.2.2, ⟨_, _, _, _, _, _, _, _, _, put_at (by omega), q2, q3⟩, hst _ _ hid⟩
    | 8, ho, hun, hd =>
      have hop : o.op = .box 62 (.tmp 10) := by simp at ho; subst ho; rfl
      have hds : o.dst = some 11 := by simp at ho; subst ho; rfl
      have hgd : o.guard = none := by simp at ho; subst ho; rfl
      have haf : ∀ e : Edge, e ∈ o.after → Region.binds .any e = true → nmF w.heap.size n e.on a w1 := hd
      have hst : ∀ (v : Value) (w2 : World), (∀ (b : Nat) (o : Obj), w1.heap[b]? = some o → w2.heap[b]? = some o) → ∀ k, k ≠ 8 → l.getD k false = true → nmF w.heap.size n k a w1 → nmF w.heap.size n k (a.put (some 11) v) w2 := fun v w2 hw k hk _ h => nmF_put _ _ (fun hk10 => nmS_ne 8 (by decide) k hk10 hk) hw h
      obtain ⟨m0, bm, m7, a5, l5, c5, a6, l6, c6, q1, q2, q3⟩ := (haf ⟨7, .data⟩ (by simp at ho; subst ho; simp) rfl)
      exact wpOp_val ho hgd hds (exec_box hop (eval_at q1) rfl) ⟨nmG_put _ _ (by decide) hG (hBa _) (hBs _), ⟨_, _, _, _, _, _, _, _, _, _, put_at (by omega), hG.2.2.2.2, q2, hal _ _ _ q3, heap_alloc_new _ _⟩, hst _ _ (hal _)⟩
    | 9, ho, hun, hd =>
      have hop : o.op = .assign (.tmp 11) := by simp at ho; subst ho; rfl
      have hds : o.dst = some 2 := by simp at ho; subst ho; rfl
      have hgd : o.guard = none := by simp at ho; subst ho; rfl
      have haf : ∀ e : Edge, e ∈ o.after → Region.binds .any e = true → nmF w.heap.size n e.on a w1 := hd
      have hst : ∀ (v : Value) (w2 : World), (∀ (b : Nat) (o : Obj), w1.heap[b]? = some o → w2.heap[b]? = some o) → ∀ k, k ≠ 9 → l.getD k false = true → nmF w.heap.size n k a w1 → nmF w.heap.size n k (a.put (some 2) v) w2 := fun v w2 hw k hk _ h => nmF_put _ _ (fun hk10 => nmS_ne 9 (by decide) k hk10 hk) hw h
      obtain ⟨mb, m0, bm, m7, a5, l5, c5, a6, l6, c6, q1, q2, q3, q4, q5⟩ := (haf ⟨8, .data⟩ (by simp at ho; subst ho; simp) rfl)
      exact wpOp_val ho hgd hds (exec_assign hop (eval_at q1)) ⟨nmG_put _ _ (by decide) hG (Below.refl _ _) hG.2.2.2.2, ⟨_, _, _, _, _, _, _, _, _, _, put_at (by omega), q2, q3, q4, q5⟩, hst _ _ hid⟩
    | i + 10, ho, hun, hd => simp at ho
  · intro a w1 hG hF
    obtain ⟨mb, m0, bm, m7, a5, l5, c5, a6, l6, c6, q1, q2, q3, q4, q5⟩ := hF 9 (by simp)
    obtain ⟨tmps, defers⟩ := a
    have hdf : defers = [] := hG.2.1
    subst hdf
    rename_i hk
    apply hk
    refine wp_ret ?_
    refine bodyPost_ret (v := .pointer (some ⟨mb, 0, none⟩)) ?_ rfl ⟨mb, m0, bm, m7, a5, l5, c5, a6, l6, c6, rfl, hG.2.2.2.1, q2, q3, q4, q5⟩
    rw [results_tmp (t := 2) rfl]
    have q1' : tmps[2]? = some (.pointer (some ⟨mb, 0, none⟩)) := q1
    simp [q1']
end Go.Proofs.Ybulkuoc
