/- zzs1042abuild. -/
import Derived.Test.YbulkuocThrough
import Derived.Test.YbulkuocBlk
namespace Go.Proofs.Ybulkuoc
open Go.RowKit

/-- What stays of a through: the graph's nodes, the blocks. -/
structure Tc where
  N : Nat
  base : Nat
  C : Nat
  BT : Nat
  TT : Nat
  pa : Nat
  pb : Nat
  va : Value
  vp : Value
  fo : Value
  pl : Value
  pAH : Value
  pTL : Value
/-- What turns. -/
structure Tv where
  ids : Value
  out : Value
  inn : Value
  gone : Value
  home : Value
  at' : Value
  fresh : Value
  gained : Value
  marks : Value
  reached : Value
  frm : Value
  len : Value
  nxt : Value
  met : Value
  parked : Value
  st : Int
  work : Int
  mark : Int
/-- The through's cells. -/
def thrOf (c : Tc) (v : Tv) : Array Value := #[.int .i64 (c.N : Int), c.pl, .func (.func 20) #[] #[.pointer (some ⟨c.pa, 0, none⟩)], .func (.func 21) #[] #[.pointer (some ⟨c.pb, 0, none⟩)], c.fo, .int .i64 0, v.ids, .int .i64 (c.N : Int), .int .i64 0, .int .i64 1, v.out, v.inn, v.gone, c.pAH, .bool false, .pointer (some ⟨c.BT, 0, none⟩), .slice none 0 0, .slice none 0 0, .pointer (some ⟨c.TT, 0, none⟩), c.pTL, .slice none 0 0, .int .i64 0, v.home, v.at', .slice none 0 0, .slice none 0 0, .int .i64 0, .slice none 0 0, .int .u8 v.st, .bool true, .int .i64 v.work, v.fresh, v.gained, v.marks, .int .i64 v.mark]
/-- The types of the rows: none is a struct's. -/
def TyOk (t : TypeId) : Prop := t ≠ 43 ∧ t ≠ 47 ∧ t ≠ 49 ∧ t ≠ 23
theorem ty3 : TyOk 3 := by unfold TyOk; decide
theorem ty4 : TyOk 4 := by unfold TyOk; decide
theorem ty21 : TyOk 21 := by unfold TyOk; decide
theorem ty22 : TyOk 22 := by unfold TyOk; decide
theorem ty26 : TyOk 26 := by unfold TyOk; decide
theorem ty125 : TyOk 125 := by unfold TyOk; decide
theorem upd_ty {K : Nat → Option Ent} (h : ∀ k e, K k = some e → TyOk e.t) (k : Nat) (e : Ent) (he : TyOk e.t) : ∀ x y, upd K k e x = some y → TyOk y.t := by
  intro x y hx
  simp only [upd] at hx
  split at hx
  · cases hx; exact he
  · exact h x y hx
/-- The blocks of a through. -/
structure St (c : Tc) (K : Nat → Option Ent) (v : Tv) (w : World) : Prop where
  sep : Sep w c.base K
  hC : Blk w c.C (thrOf c v) 43
  hBT : Blk w c.BT #[v.reached, v.frm] 49
  hTT : Blk w c.TT #[.int .i64 1, .int .i64 0, v.len, v.nxt, v.met, .int .i64 0, v.parked] 47
  ha : Blk w c.pa #[c.va] 23
  hp : Blk w c.pb #[c.vp] 23
  ty : ∀ k e, K k = some e → TyOk e.t
  lo : c.base ≤ c.C ∧ c.base ≤ c.BT ∧ c.base ≤ c.TT

/-- A new row, written out. -/
theorem Sep.row {w : World} {base : Nat} {K : Nat → Option Ent} (h : Sep w base K) (t : TypeId) (k n : Nat) (cs : Array Value) (hn : cs.size = n) (hb : base ≤ w.heap.size) (hm : n ≤ maxLen) (q : Nat) (hq : q = w.heap.size) : Sep (w.alloc (.cells cs t)) base (upd K k ⟨t, 1, n, .slice (some ⟨q, 0, none⟩) n n, cs.toList⟩) := by
  subst hq
  refine h.add ?_ ⟨rfl, rfl, rfl, by simp, fun b hb' _ => Below.heap_alloc _ _ _ hb'⟩ (fun b hb' => by simp [Value.ownBlock] at hb'; omega)
  exact ⟨by simp [hn], .inr ⟨w.heap.size, n, cs, rfl, hb, heap_alloc_new w _, Nat.le_refl _, hm, by simp [hn], by rw [Nat.mul_one, ← hn]; exact List.take_of_length_le (by simp)⟩⟩

/-- The constants of the through that zzs1042abuild makes. -/
def cst (N base h q : Nat) (va vp : Value) : Tc := { N := N, base := base, C := q + 5, BT := q + 2, TT := q + 3, pa := h, pb := h + 1, va := va, vp := vp, fo := .slice (some ⟨h + 2, 0, none⟩) N N, pl := .slice (some ⟨q, 0, none⟩) N N, pAH := .pointer (some ⟨q + 1, 0, none⟩), pTL := .pointer (some ⟨q + 4, 0, none⟩) }
def v0 (q : Nat) : Tv := { ids := .slice (some ⟨q + 6, 0, none⟩) 2 2, out := .slice (some ⟨q + 7, 0, none⟩) 2 2, inn := .slice (some ⟨q + 8, 0, none⟩) 2 2, gone := .slice (some ⟨q + 9, 0, none⟩) 2 2, home := .slice (some ⟨q + 15, 0, none⟩) 2 2, at' := .slice (some ⟨q + 16, 0, none⟩) 2 2, fresh := .slice none 0 0, gained := .slice none 0 0, marks := .slice none 0 0, reached := .slice (some ⟨q + 10, 0, none⟩) 2 2, frm := .slice (some ⟨q + 11, 0, none⟩) 2 2, len := .slice (some ⟨q + 12, 0, none⟩) 2 2, nxt := .slice (some ⟨q + 13, 0, none⟩) 2 2, met := .slice (some ⟨q + 14, 0, none⟩) 1 1, parked := .slice none 0 0, st := 2, work := 0, mark := 0 }
/-- The rows, by their names. -/
def k0 (K : Nat → Option Ent) (N h q : Nat) (d : Nat → Int) : Nat → Option Ent :=
  upd (upd (upd (upd (upd (upd (upd (upd (upd (upd (upd (upd (upd K 22 ⟨3, 1, N, .slice (some ⟨h + 2, 0, none⟩) N N, rowOf d N⟩)
    0 ⟨21, 1, N, .slice (some ⟨q, 0, none⟩) N N, ((madeCells #[.int .i32 0] N).setIfInBounds 0 (.int .i32 1)).toList⟩)
    1 ⟨3, 1, 2, .slice (some ⟨q + 6, 0, none⟩) 2 2, [.int .i64 0, .int .i64 (N : Int)]⟩)
    2 ⟨26, 1, 2, .slice (some ⟨q + 7, 0, none⟩) 2 2, [.slice none 0 0, .slice none 0 0]⟩)
    3 ⟨26, 1, 2, .slice (some ⟨q + 8, 0, none⟩) 2 2, [.slice none 0 0, .slice none 0 0]⟩)
    4 ⟨4, 1, 2, .slice (some ⟨q + 9, 0, none⟩) 2 2, [.bool false, .bool false]⟩)
    5 ⟨4, 1, 2, .slice (some ⟨q + 10, 0, none⟩) 2 2, [.bool false, .bool true]⟩)
    6 ⟨3, 1, 2, .slice (some ⟨q + 11, 0, none⟩) 2 2, [.int .i64 0, .int .i64 0]⟩)
    7 ⟨3, 1, 2, .slice (some ⟨q + 12, 0, none⟩) 2 2, [.int .i64 (-1), .int .i64 0]⟩)
    8 ⟨3, 1, 2, .slice (some ⟨q + 13, 0, none⟩) 2 2, [.int .i64 (-1), .int .i64 (-1)]⟩)
    9 ⟨3, 1, 1, .slice (some ⟨q + 14, 0, none⟩) 1 1, [.int .i64 1]⟩)
    10 ⟨125, 1, 2, .slice (some ⟨q + 15, 0, none⟩) 2 2, [.pointer none, .pointer none]⟩)
    11 ⟨21, 1, 2, .slice (some ⟨q + 16, 0, none⟩) 2 2, [.int .i32 0, .int .i32 0]⟩

set_option maxRecDepth 20000 in
set_option maxHeartbeats 3200000 in
theorem build_calls (N base ga ca gp cp : Nat) (K : Nat → Option Ent) (w : World) (hN : N ≤ 8) (hN2 : 2 ≤ N) (hb : base ≤ w.heap.size) (hs : Sep w base K) (hty : ∀ k e, K k = some e → TyOk e.t) :
    Calls Yba.prog 11 #[.int .i64 (N : Nat), .slice (some ⟨ga, 0, none⟩) N ca, .slice (some ⟨gp, 0, none⟩) N cp] w fun r w' => ∃ h q, base ≤ h ∧ h + 2 < q ∧ q + 16 < w'.heap.size ∧ r = .returned (.pointer (some ⟨q + 5, 0, none⟩)) ∧ Below base w w' ∧ ∃ d, St (cst N base h q (.slice (some ⟨ga, 0, none⟩) N ca) (.slice (some ⟨gp, 0, none⟩) N cp)) (k0 K N h q d) (v0 q) w' := by
  have hmk : ∀ w, (Instr.makeSlice 26 (.int .i64 (N : Int)) (.int .i64 (N : Int))).run Yba.prog w = .ok (.slice (some ⟨w.heap.size, 0, none⟩) N N) (w.alloc (.cells (madeCells #[.int .i64 0] N) 3)) :=
    fun w => run_make_row' 26 3 (.int .i64 0) 8 Yba.underlying26 info3 rfl .i64 .i64 N (by omega) (by omega) w
  go_enter Yba.func11, Yba.ntmps11
  go_wp2_with fail
  have hs0 := (((hs.alloc (.cells #[.slice (some ⟨ga, 0, none⟩) N ca] 23)).alloc (.cells #[.slice (some ⟨gp, 0, none⟩) N cp] 23)).made 3 (.int .i64 0) N 22 (by simp; omega) (by unfold maxLen; omega))
  rw [rowOf_zero] at hs0
  have hz2 : ((w.alloc (.cells #[.slice (some ⟨ga, 0, none⟩) N ca] 23)).alloc (.cells #[.slice (some ⟨gp, 0, none⟩) N cp] 23)).heap.size = w.heap.size + 1 + 1 := by simp
  rw [hz2] at hs0
  clear hz2
  generalize hh : w.heap.size = h at *
  rw [show h + 1 + 1 = h + 2 from rfl]
  rw [show h + 1 + 1 = h + 2 from rfl] at hs0
  go_loopw [18] (fun iv wr => ∃ (i : Nat) (d : Nat → Int), i ≤ N ∧ iv = .int .i64 i ∧ Below base w wr ∧ Blk wr h #[.slice (some ⟨ga, 0, none⟩) N ca] 23 ∧ Blk wr (h + 1) #[.slice (some ⟨gp, 0, none⟩) N cp] 23 ∧ Sep wr base (upd K 22 ⟨3, 1, N, .slice (some ⟨h + 2, 0, none⟩) N N, rowOf d N⟩)) (fun iv _ => N - (intOf iv).toNat)
  case atStart =>
    refine ⟨0, fun _ => 0, Nat.zero_le _, rfl, (((Below.refl _ _).alloc (by omega) _).alloc (by simp; omega) _).alloc (by simp; omega) _, ?_, ?_, hs0⟩
    · exact ((blk_here (by omega)).alloc _).alloc _
    · exact (blk_here (by simp; omega)).alloc _
  case round =>
    obtain ⟨i, d, hi, rfl, hbl, hb1, hb2, hs1⟩ := hrel
    have e22 := upd_same K 22 ⟨3, 1, N, .slice (some ⟨h + 2, 0, none⟩) N N, rowOf d N⟩
    by_cases hiN : i < N
    · have hi' : (i : Int) < (N : Int) := by omega
      have ci := hs1.cell e22 (rowOf_get d hiN)
      have fi := hs1.free e22 i
      have hs2 := hs1.put e22 (j := i) (.int .i64 (-1))
      rw [upd_upd, rowOf_set] at hs2
      go_wp2_with fail
      refine ⟨⟨i + 1, _, by omega, by go_num, hbl.setCell (by simp; omega) _, hb1.other (by simp) _, hb2.other (by simp) _, hs2⟩, by simp [intOf]; omega⟩
    · have hi' : ¬ ((i : Int) < (N : Int)) := by omega
      go_wp2_with fail
      refine Calls.mono (newThrough_calls N h (h + 1) (h + 2) N N wr hN) ?_
      rintro e w1 ⟨rfl, hw1⟩
      unfold thr0 at hw1
      subst hw1
      have hm0 : (madeCells #[Value.int .i32 0] N)[0]? = some (.int .i32 0) := by rw [madeCells_one, Array.getElem?_replicate, if_pos (by omega)]
      have hN' : (0 : Int) < (N : Int) := by omega
      have hq2 : h + 2 < wr.heap.size := (hs1.lt e22 (h + 2) rfl).2
      have hbw : base ≤ wr.heap.size := by omega
      obtain ⟨q, hq⟩ : ∃ q, wr.heap.size = q := ⟨_, rfl⟩
      go_wp2_with fail
      go_ret
      refine ⟨h, q, by omega, by omega, by simp [hq], rfl, ?_, d, ?_⟩
      · exact (((((((((((((((((hbl.alloc (by omega) _).alloc (by simp; omega) _).alloc (by simp; omega) _).alloc (by simp; omega) _).alloc (by simp; omega) _).alloc (by simp; omega) _).alloc (by simp; omega) _).alloc (by simp; omega) _).alloc (by simp; omega) _).alloc (by simp; omega) _).alloc (by simp; omega) _).alloc (by simp; omega) _).alloc (by simp; omega) _).alloc (by simp; omega) _).alloc (by simp; omega) _).alloc (by simp; omega) _).alloc (by simp; omega) _)
      · constructor
        · exact (((((((((((((((((hs1.row 21 0 N ((madeCells #[.int .i32 0] N).setIfInBounds 0 (.int .i32 1)) (by simp [size_madeCells]) (by omega) (by unfold maxLen; omega) q hq.symm).alloc _).alloc _).alloc _).alloc _).alloc _).row 3 1 2 _ rfl (by simp; omega) (by unfold maxLen; omega) (q + 6) (by simp [hq])).row 26 2 2 _ rfl (by simp; omega) (by unfold maxLen; omega) (q + 7) (by simp [hq])).row 26 3 2 _ rfl (by simp; omega) (by unfold maxLen; omega) (q + 8) (by simp [hq])).row 4 4 2 _ rfl (by simp; omega) (by unfold maxLen; omega) (q + 9) (by simp [hq])).row 4 5 2 _ rfl (by simp; omega) (by unfold maxLen; omega) (q + 10) (by simp [hq])).row 3 6 2 _ rfl (by simp; omega) (by unfold maxLen; omega) (q + 11) (by simp [hq])).row 3 7 2 _ rfl (by simp; omega) (by unfold maxLen; omega) (q + 12) (by simp [hq])).row 3 8 2 _ rfl (by simp; omega) (by unfold maxLen; omega) (q + 13) (by simp [hq])).row 3 9 1 _ rfl (by simp; omega) (by unfold maxLen; omega) (q + 14) (by simp [hq])).row 125 10 2 _ rfl (by simp; omega) (by unfold maxLen; omega) (q + 15) (by simp [hq])).row 21 11 2 _ rfl (by simp; omega) (by unfold maxLen; omega) (q + 16) (by simp [hq]))
        · exact ((((((((((((blk_here (by simp [hq, cst])).alloc _).alloc _).alloc _).alloc _).alloc _).alloc _).alloc _).alloc _).alloc _).alloc _).alloc _)
        · exact (((((((((((((((blk_here (by simp [hq, cst])).alloc _).alloc _).alloc _).alloc _).alloc _).alloc _).alloc _).alloc _).alloc _).alloc _).alloc _).alloc _).alloc _).alloc _)
        · exact ((((((((((((((blk_here (by simp [hq, cst])).alloc _).alloc _).alloc _).alloc _).alloc _).alloc _).alloc _).alloc _).alloc _).alloc _).alloc _).alloc _).alloc _)
        · exact (((((((((((((((((hb1.alloc _).alloc _).alloc _).alloc _).alloc _).alloc _).alloc _).alloc _).alloc _).alloc _).alloc _).alloc _).alloc _).alloc _).alloc _).alloc _).alloc _)
        · exact (((((((((((((((((hb2.alloc _).alloc _).alloc _).alloc _).alloc _).alloc _).alloc _).alloc _).alloc _).alloc _).alloc _).alloc _).alloc _).alloc _).alloc _).alloc _).alloc _)
        · exact (upd_ty (upd_ty (upd_ty (upd_ty (upd_ty (upd_ty (upd_ty (upd_ty (upd_ty (upd_ty (upd_ty (upd_ty (upd_ty hty _ _ ty3) _ _ ty21) _ _ ty3) _ _ ty26) _ _ ty26) _ _ ty4) _ _ ty4) _ _ ty3) _ _ ty3) _ _ ty3) _ _ ty3) _ _ ty125) _ _ ty21)
        · exact ⟨by simp [cst]; omega, by simp [cst]; omega, by simp [cst]; omega⟩
end Go.Proofs.Ybulkuoc
