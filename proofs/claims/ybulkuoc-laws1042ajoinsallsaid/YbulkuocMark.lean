/- markPlaces. -/
import Derived.Test.YbulkuocTakeIn
import Derived.Lib.AppendZeros
namespace Go.Proofs.Ybulkuoc
open Go.RowKit

theorem step_append_run {P : Program} {ops : Array Oper} {o : Oper} {a : Act} {w : World} {K : Act → World → Prop} {Q : Exit → Act → World → Prop} {E : Prop} (hg : o.guard = none) (s x : Operand) (t tn : TypeId)
    (ho : o.op = .call { callee := .builtin .append, args := #[s, x], argTypes := #[t, tn] }) (vs vx : Value) (hs : a.eval s = vs) (hx : a.eval x = vx)
    (v' : Value) (w' : World) (hr : (Builtin.append_ #[t, tn] o.type #[vs, vx]).run P w = .ok v' w') (h : K (a.put o.dst v') w') : if Region.wanted o (yielded ops a.tmps) = true then Oper.wp P o a w K Q else E := by
  rw [if_pos (by simp [Region.wanted, hg])]
  exact Lib.wp_append_run w s x t tn ho vs vx hs hx v' w' hr h
theorem zeros_take (n k : Nat) : (Builtin.zeroCells (Value.int .i64 0).cells n ++ Builtin.zeroCells (Value.int .i64 0).cells k).toList.take n = rowOf (fun _ => 0) n := by
  rw [← rowOf_zero]
  apply List.ext_getElem?
  intro i
  rw [List.getElem?_take, List.getElem?_replicate]
  by_cases h : i < n
  · rw [if_pos h, if_pos h, Array.getElem?_toList, Array.getElem?_append_left (by simp [size_zeroCells, Value.cells]; exact h)]
    simp [Builtin.zeroCells, Value.cells, h, Nat.mod_one]
  · rw [if_neg h, if_neg h]
theorem rowOf_congr {f g : Nat → Int} {n : Nat} (h : ∀ i, i < n → f i = g i) : rowOf f n = rowOf g n := by
  unfold rowOf
  apply List.map_congr_left
  intro x hx
  rw [h x (List.mem_range.1 hx)]

theorem Rw.marked {c : Tc} {K K' : Nat → Option Ent} {v v' : Tv} {D : Nat → Option Ent} {J : List Nat} {O I : Nat → List Nat} {L : Nat → Int} {B m m' : Nat} (h : Rw c K v D J O I L B m) (hk : ∀ k, k < 1000 → k ≠ 13 → K' k = K k) (hv : v' = { v with mark := v'.mark, marks := v'.marks })
    (r13 : K' 13 = some ⟨3, 1, m', v'.marks, rowOf (fun p => if p < 2 then 0 else 1) m'⟩ ∧ (v'.mark = if m' = 0 then 0 else 1) ∧ (m' = 0 → v'.marks = .slice none 0 0)) : Rw c K' v' D J O I L B m' := by
  have hl := h.lJ
  refine ⟨?_, ?_, ?_, ?_, ?_, ?_, ?_, ?_, ?_, ?_, ?_, ?_, ?_, r13, ?_, ?_, ?_, h.bO, h.bI, h.lJ, ?_⟩
  · rw [hk 0 (by omega) (by omega)]; exact h.r0
  · rw [hk 1 (by omega) (by omega), hv]; exact h.r1
  · rw [hv]; exact h.r2.keep (hk 2 (by omega) (by omega)) (fun u hu => hk _ (by omega) (by omega))
  · rw [hv]; exact h.r3.keep (hk 3 (by omega) (by omega)) (fun u hu => hk _ (by omega) (by omega))
  · rw [hk 4 (by omega) (by omega), hv]; exact h.r4
  · rw [hk 5 (by omega) (by omega), hv]; exact h.r5
  · rw [hk 6 (by omega) (by omega), hv]; exact h.r6
  · rw [hk 7 (by omega) (by omega), hv]; exact h.r7
  · rw [hk 8 (by omega) (by omega), hv]; exact h.r8
  · rw [hk 9 (by omega) (by omega), hv]; exact h.r9
  · rw [hk 10 (by omega) (by omega), hv]; exact h.r10
  · rw [hk 11 (by omega) (by omega), hv]; exact h.r11
  · rw [hk 12 (by omega) (by omega), hv]; exact h.r12
  · rw [hk 14 (by omega) (by omega), hv]; exact h.r14
  · rw [hk 18 (by omega) (by omega), hv]; exact h.r18
  · intro k h1 h2
    rw [hk k (by omega) (by omega)]; exact h.rD k h1 h2
  · rw [hv]; exact h.st

set_option maxRecDepth 20000 in
set_option maxHeartbeats 6400000 in
theorem markPlaces_calls (c : Tc) (K D : Nat → Option Ent) (v : Tv) (w : World) (J : List Nat) (O I : Nat → List Nat) (L : Nat → Int) (B : Nat) (h : St c K v w) (hR : Rw c K v D J O I L B 0) (hb : c.base ≤ w.heap.size) :
    Calls Yba.prog 43 #[.pointer (some ⟨c.C, 0, none⟩), v.fresh] w fun e w' => e = .returned (.tuple #[]) ∧ Below c.base w w' ∧ ∃ K' v', St c K' v' w' ∧ v'.work = v.work ∧ v'.fresh = v.fresh ∧ Rw c K' v' D J O I L B (J.length + 2) := by
  have hJ7 := hR.lJ
  obtain ⟨h13, hmk, hmn⟩ := hR.r13
  obtain ⟨fa, fc, hfv, hfg⟩ := h.sep.shape hR.r12
  obtain ⟨gI, cI, hidv, _⟩ := h.sep.form hR.r1 |>.2 |>.resolve_left (by rintro ⟨_, h2⟩; simp at h2)
  have hids : v.ids = .slice (some ⟨gI, 0, none⟩) (J.length + 2) cI := hidv
  have hmv : v.marks = .slice none 0 0 := hmn rfl
  have hmk0 : v.mark = 0 := by simpa using hmk
  rw [hfv]
  have c34 : w.cell? ⟨c.C, 34, none⟩ = some (.int .i64 0) := by rw [← hmk0]; exact h.hC.cell? 34
  have f34 := h.hC.free 34
  have hst1 : St c K { v with mark := 1 } (w.setCell ⟨c.C, 34, none⟩ (.int .i64 1)) := h.setC 34 _ rfl rfl rfl rfl rfl rfl rfl
  have hbl1 : Below c.base w (w.setCell ⟨c.C, 34, none⟩ (.int .i64 1)) := (Below.refl _ _).setCell h.lo.1 _
  have hsz1 : c.base ≤ (w.setCell ⟨c.C, 34, none⟩ (.int .i64 1)).heap.size := by simpa using hb
  have HR : Hid (Rw c K v D J O I L B 0) := hR
  clear hR hmk h13 hmn
  go_enter Yba.func43, Yba.ntmps43
  go_upto_region 1 with fail
  generalize w.setCell ⟨c.C, 34, none⟩ (.int .i64 1) = w1 at hst1 hbl1 hsz1 ⊢
  have d33 : w1.cell? ⟨c.C, 33, none⟩ = some (.slice none 0 0) := by rw [← hmv]; exact hst1.hC.cell? 33
  have d6 : w1.cell? ⟨c.C, 6, none⟩ = some (.slice (some ⟨gI, 0, none⟩) (J.length + 2) cI) := by rw [← hids]; exact hst1.hC.cell? 6
  go_quiet (fail)
  go_upto_region 2 with fail
  obtain ⟨w2, hw2⟩ : ∃ w2, w2 = w1.drewN nq := ⟨_, rfl⟩
  have hst2 : St c K { v with mark := 1 } w2 := by rw [hw2]; exact hst1.drewN nq
  have hbl2 : Below c.base w w2 := by rw [hw2]; exact below_drewN hbl1 nq
  have hsz2 : c.base ≤ w2.heap.size := by rw [hw2]; exact hsz1
  rw [← hw2]
  clear hw2
  have e33 : w2.cell? ⟨c.C, 33, none⟩ = some (.slice none 0 0) := by rw [← hmv]; exact hst2.hC.cell? 33
  have e6 : w2.cell? ⟨c.C, 6, none⟩ = some (.slice (some ⟨gI, 0, none⟩) (J.length + 2) cI) := by rw [← hids]; exact hst2.hC.cell? 6
  obtain ⟨i3, hi3, hz0, hz1, hz2⟩ := info_parts info3
  have hrun := Lib.run_append_nil_zeros (P := Yba.prog) w2.drew 26 3 26 3 i3 (.int .i64 0) .i64 .i64 Yba.underlying26 Yba.underlying3 hi3 hz0 (J.length + 2) (by omega) (by omega) (by omega) (by rw [hz2]; omega)
  generalize hgc : grownCap w2.drew (J.length + 2) 0 3 = gc at hrun
  have hge : J.length + 2 ≤ gc := by rw [← hgc]; exact grownCap_ge _ _ _ _
  have hle : gc ≤ maxLen := by rw [← hgc]; exact grownCap_le_maxLen _ _ _ _ (by unfold maxLen; omega)
  generalize hcu : (Builtin.zeroCells (Value.int .i64 0).cells (J.length + 2) ++ Builtin.zeroCells (Value.int .i64 0).cells (gc - (J.length + 2))) = cu at hrun
  have hcs : cu.size = gc := by rw [← hcu]; simp [size_zeroCells, Value.cells]; omega
  have hs3 : Sep (w2.drew.drew.alloc (.cells cu 3)) c.base (upd K 13 ⟨3, 1, J.length + 2, .slice (some ⟨w2.heap.size, 0, none⟩) (J.length + 2) gc, rowOf (fun _ => 0) (J.length + 2)⟩) := by
    refine hst2.drew.drew.sep.add (e := ⟨3, 1, J.length + 2, .slice (some ⟨w2.heap.size, 0, none⟩) (J.length + 2) gc, rowOf (fun _ => 0) (J.length + 2)⟩) ⟨by simp [rowOf], .inr ⟨w2.heap.size, gc, cu, rfl, hsz2, heap_alloc_new w2.drew.drew _, hge, hle, by rw [Nat.mul_one]; exact hcs, ?_⟩⟩ ⟨rfl, rfl, rfl, by simp, fun b hb' _ => Below.heap_alloc _ _ _ hb'⟩ (fun b hb' => by simp [Value.ownBlock] at hb'; show w2.heap.size ≤ b; omega)
    rw [Nat.mul_one, ← hcu]
    exact zeros_take _ _
  have hst3 : St c (upd K 13 ⟨3, 1, J.length + 2, .slice (some ⟨w2.heap.size, 0, none⟩) (J.length + 2) gc, rowOf (fun _ => 0) (J.length + 2)⟩) { v with mark := 1 } (w2.drew.drew.alloc (.cells cu 3)) := hst2.drew.drew.grow hs3 (upd_ty hst2.ty _ _ ty3) (r := none) ⟨rfl, rfl, rfl, by simp, fun b hb' _ => Below.heap_alloc _ _ _ hb'⟩ (fun b e => by cases e)
  have hst4 : St c (upd K 13 ⟨3, 1, J.length + 2, .slice (some ⟨w2.heap.size, 0, none⟩) (J.length + 2) gc, rowOf (fun _ => 0) (J.length + 2)⟩) { v with mark := 1, marks := .slice (some ⟨w2.heap.size, 0, none⟩) (J.length + 2) gc } ((w2.drew.drew.alloc (.cells cu 3)).setCell ⟨c.C, 33, none⟩ (.slice (some ⟨w2.heap.size, 0, none⟩) (J.length + 2) gc)) := hst3.setC 33 _ rfl rfl rfl rfl rfl rfl rfl
  have g33 : (w2.drew.drew.alloc (.cells cu 3)).cell? ⟨c.C, 33, none⟩ = some (.slice none 0 0) := by rw [← hmv]; exact hst3.hC.cell? 33
  have gf33 := hst3.hC.free 33
  have g33' : (w2.alloc (.cells cu 3)).cell? ⟨c.C, 33, none⟩ = some (.slice none 0 0) := g33
  have gf33' : (w2.alloc (.cells cu 3)).frozen? ⟨c.C, 33, none⟩ = false := gf33
  have hwrap : IntKind.i64.wrap ((J.length : Int) + 2) = (J.length : Int) + 2 := by rw [IntKind.wrap_i64]; omega
  go_cut [] from 23 to 42 (fun wc => St c (upd K 13 ⟨3, 1, J.length + 2, .slice (some ⟨w2.heap.size, 0, none⟩) (J.length + 2) gc, rowOf (fun _ => 0) (J.length + 2)⟩) { v with mark := 1, marks := .slice (some ⟨w2.heap.size, 0, none⟩) (J.length + 2) gc } wc ∧ Below c.base w wc)
  case first =>
    go_region_law (refine step_append_run rfl (.tmp 28) (.tmp 39) 26 3 rfl (.slice none 0 0) (.int .i64 ((J.length + 2 : Nat) : Int)) (by first | rfl | simp [Act.eval]) (by first | rfl | (show Value.int .i64 (IntKind.i64.wrap ((J.length : Int) + 2)) = _; rw [hwrap]; rfl)) _ _ hrun ?_)
    all_goals
      go_wp2_with fail
      go_meet
      exact ⟨hst4, (((below_drewN hbl2 2).alloc hsz2 _).setCell h.lo.1 _)⟩
  case rest =>
    obtain ⟨h5, hb5⟩ := hcut
    have hs5 : c.base ≤ wc.heap.size := by have := hb5.size; omega
    obtain ⟨gM, hgM⟩ : ∃ gM, gM = w2.heap.size := ⟨_, rfl⟩
    rw [← hgM] at h5
    clear hst4 hst3 hs3 hrun g33 gf33 g33' gf33' e33 e6 hgM hst2 hbl2 hsz2 hst1 hbl1 hsz1 d33 d6 hcs hcu hgc
    go_wp2_with fail
    go_loopw [45] (fun iv wr => ∃ i : Nat, i ≤ J.length ∧ iv = .int .i64 i ∧ Below c.base w wr ∧ c.base ≤ wr.heap.size ∧ St c (upd K 13 ⟨3, 1, J.length + 2, .slice (some ⟨gM, 0, none⟩) (J.length + 2) gc, rowOf (fun p => if 2 ≤ p ∧ p < 2 + i then 1 else 0) (J.length + 2)⟩) { v with mark := 1, marks := .slice (some ⟨gM, 0, none⟩) (J.length + 2) gc } wr) (fun iv _ => J.length - (intOf iv).toNat)
    case atStart =>
      refine ⟨0, Nat.zero_le _, rfl, hb5, hs5, ?_⟩
      rw [rowOf_congr (g := fun _ => 0) (fun p _ => by rw [if_neg (by omega)])]
      exact h5
    case round =>
      clear h5 hb5 hs5
      obtain ⟨i, hi, rfl, hbr, hsr, hstr⟩ := hrel
      have e13 := upd_same K 13 ⟨3, 1, J.length + 2, .slice (some ⟨gM, 0, none⟩) (J.length + 2) gc, rowOf (fun p => if 2 ≤ p ∧ p < 2 + i then 1 else 0) (J.length + 2)⟩
      by_cases hil : i < J.length
      · have hil' : (i : Int) < (J.length : Int) := by omega
        obtain ⟨gf, rfl⟩ := hfg (by omega)
        have e12 : upd K 13 ⟨3, 1, J.length + 2, .slice (some ⟨gM, 0, none⟩) (J.length + 2) gc, rowOf (fun p => if 2 ≤ p ∧ p < 2 + i then 1 else 0) (J.length + 2)⟩ 12 = some ⟨3, 1, J.length, .slice (some ⟨gf, 0, none⟩) J.length fc, ints (List.range' 2 J.length)⟩ := by rw [upd_other _ _ (by omega), ← hfv]; exact HR.out.r12
        have cf := hstr.sep.cell e12 (ints_at (v := i + 2) (by rw [List.getElem?_range' hil]; simp; omega))
        have cm := hstr.sep.cell e13 (rowOf_get _ (u := i + 2) (by omega))
        have fm := hstr.sep.free e13 (i + 2)
        have q33 : wr.cell? ⟨c.C, 33, none⟩ = some (.slice (some ⟨gM, 0, none⟩) (J.length + 2) gc) := hstr.hC.cell? 33
        have q34 : wr.cell? ⟨c.C, 34, none⟩ = some (.int .i64 1) := hstr.hC.cell? 34
        have hs6 := hstr.sep.put e13 (j := i + 2) (.int .i64 1)
        rw [upd_upd, rowOf_set] at hs6
        have hgb := (hstr.sep.lt e13 gM rfl).1
        have hst6 := hstr.grow hs6 (upd_ty h.ty _ _ ty3) (r := some gM) ⟨rfl, rfl, rfl, by simp, fun b _ hb => Below.heap_setCell _ _ _ _ (fun e => hb (by rw [e]))⟩ (fun b hb => ⟨13, _, e13, hb⟩)
        have hii : ((i : Int) + 2) < ((J.length : Int) + 2) := by omega
        go_wp2_with fail
        go_region
        all_goals
          go_wp2_with fail
          refine ⟨⟨i + 1, by omega, by go_num, (hbr.setCell hgb _).drew, by simpa using hsr, ?_⟩, by simp [intOf]; omega⟩
          rw [rowOf_congr (g := fun y => if y = i + 2 then 1 else if 2 ≤ y ∧ y < 2 + i then 1 else 0) (fun y _ => by
            by_cases h1 : y = i + 2
            · rw [if_pos (by omega), if_pos h1]
            · rw [if_neg h1]
              by_cases h2 : 2 ≤ y ∧ y < 2 + i
              · rw [if_pos (by omega), if_pos h2]
              · rw [if_neg (by omega), if_neg h2])]
          exact hst6.drew
      · have hil' : ¬ ((i : Int) < (J.length : Int)) := by omega
        obtain rfl : i = J.length := by omega
        go_wp2_with fail
        go_end0
        refine ⟨rfl, hbr, _, _, hstr, rfl, hfv, ?_⟩
        refine HR.out.marked (fun k h1 h2 => upd_other _ _ h2) rfl ?_
        rw [upd_same, rowOf_congr (g := fun p => if p < 2 then 0 else 1) (fun y hy => by
          by_cases h1 : y < 2
          · rw [if_neg (by omega), if_pos h1]
          · rw [if_pos (by omega), if_neg h1])]
        exact ⟨rfl, by rw [if_neg (by omega)], fun e => absurd e (by omega)⟩
end Go.Proofs.Ybulkuoc
