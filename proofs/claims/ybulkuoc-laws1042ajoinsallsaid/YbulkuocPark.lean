/- nearest, with what it calls. -/
import Derived.Test.YbulkuocHeap
import Derived.Test.YbulkuocTakeIn
namespace Go.Proofs.Ybulkuoc
open Go.RowKit

set_option maxRecDepth 20000 in
set_option maxHeartbeats 3200000 in
theorem holds_calls (T : Nat) (w : World) : Calls Yba.prog 74 #[.pointer none, .pointer (some ⟨T, 0, none⟩)] w fun e w' => e = .returned (.bool false) ∧ ∃ m, w' = w.drewN m := by
  go_enter Yba.func74, Yba.ntmps74
  go_wp2_with fail
  go_quiet (fail)
  go_wp2_with fail
  go_ret
  exact ⟨rfl, nq, rfl⟩

set_option maxRecDepth 20000 in
set_option maxHeartbeats 3200000 in
theorem moved_calls (c : Tc) (K : Nat → Option Ent) (v : Tv) (w : World) (h : St c K v w) (M u : Nat) (hM : K 10 = some ⟨125, 1, M, v.home, List.replicate M (.pointer none)⟩) (hu : u < M) :
    Calls Yba.prog 57 #[.pointer (some ⟨c.C, 0, none⟩), .pointer (some ⟨c.TT, 0, none⟩), .int .i64 (u : Nat)] w fun e w' => e = .returned (.tuple #[]) ∧ ∃ m, w' = w.drewN m := by
  obtain ⟨gH, cH, hHv, _⟩ := h.sep.form hM |>.2 |>.resolve_left (by rintro ⟨_, h2⟩; have : M = 0 := h2; omega)
  have hHv : v.home = .slice (some ⟨gH, 0, none⟩) M cH := hHv
  have c22 : w.cell? ⟨c.C, 22, none⟩ = some (.slice (some ⟨gH, 0, none⟩) M cH) := by rw [← hHv]; exact h.hC.cell? 22
  rw [hHv] at hM
  have cu := h.sep.cell hM (rep_get (.pointer none) hu)
  have hu' : (u : Int) < (M : Int) := by omega
  go_enter Yba.func57, Yba.ntmps57
  go_wp2_with (go_at_call 74; refine Calls.mono (holds_calls c.TT w) ?_; rintro e w1 ⟨rfl, m, rfl⟩)
  go_end0
  exact ⟨rfl, m, rfl⟩

theorem ty_old {K K' : Nat → Option Ent} (h : ∀ k e, K k = some e → TyOk e.t) (hk : ∀ k e, K' k = some e → e.t = 22 ∨ ∃ k', K k' = some e) : ∀ k e, K' k = some e → TyOk e.t := by
  intro k e he
  rcases hk k e he with h1 | ⟨k', h1⟩
  · rw [h1]; exact ty22
  · exact h k' e h1
/-- A store into a block that is none of the through's. -/
theorem St.far {c : Tc} {K : Nat → Option Ent} {v : Tv} {w : World} (h : St c K v w) {a : Addr} (x : Value) (hC : c.C ≠ a.block) (hB : c.BT ≠ a.block) (hT : c.TT ≠ a.block) (h1 : c.pa ≠ a.block) (h2 : c.pb ≠ a.block) (hr : ∀ k e, K k = some e → e.v.ownBlock ≠ some a.block) : St c K v (w.setCell a x) :=
  ⟨h.sep.setCell hr x, h.hC.other hC x, h.hBT.other hB x, h.hTT.other hT x, h.ha.other h1 x, h.hp.other h2 x, h.ty, h.lo⟩
/-- The heap in a variable of its own. -/
theorem locQ (c : Tc) (v : Tv) (bq : Nat) : Loc c bq 0 (fun K x w => St c K v w ∧ Blk w bq #[x] 45 ∧ c.base ≤ bq ∧ ∀ k e, K k = some e → e.v.ownBlock ≠ some bq) where
  sep h := h.1.sep
  cell h := h.2.1.cell? 0
  free h := h.2.1.free 0
  lo h := h.2.2.1
  ty h := h.1.ty
  store x' h := by
    obtain ⟨h1, h2, h3, h4⟩ := h
    exact ⟨h1.far x' (h1.hC.ne h2 (by decide)) (h1.hBT.ne h2 (by decide)) (h1.hTT.ne h2 (by decide)) (h1.ha.ne h2 (by decide)) (h1.hp.ne h2 (by decide)) h4, h2.set 0 x', h3, h4⟩
  grow h hs hty hg hr := by
    obtain ⟨h1, h2, h3, h4⟩ := h
    have hb : Blk _ bq _ 45 := (hg.block _ h2.lt (fun e => by
      obtain ⟨k, y, q1, q2, q3⟩ := hr bq e.symm
      exact h1.sep.neTy h2 q1 (by rw [q2]; decide) q3)).trans h2
    refine ⟨h1.grow hs (ty_old h1.ty hty) hg (fun b hb => by obtain ⟨k, e, h1, _, h2⟩ := hr b hb; exact ⟨k, e, h1, h2⟩), hb, h3, ?_⟩
    intro k e hk
    rcases hty k e hk with q | ⟨k', q⟩
    · exact hs.neTy hb hk (by rw [q]; decide)
    · exact h4 k' e q
/-- The heap of the parked. -/
theorem locP (c : Tc) (v : Tv) : Loc c c.TT 6 (fun K x w => St c K { v with parked := x } w) where
  sep h := h.sep
  cell h := h.hTT.cell? 6
  free h := h.hTT.free 6
  lo h := h.lo.2.2
  ty h := h.ty
  store x' h := h.setT 6 x' rfl rfl rfl rfl
  grow h hs hty hg hr := h.grow hs (ty_old h.ty hty) hg (fun b hb => by obtain ⟨k, e, h1, _, h2⟩ := hr b hb; exact ⟨k, e, h1, h2⟩)

set_option maxRecDepth 20000 in
theorem key33 : ∀ l, l < 10 → ∀ p, p < 10 → bits BinOp.or IntKind.u64 (bits BinOp.or IntKind.u64 (IntKind.u64.wrap (IntKind.u64.wrap ((l : Nat) : Int) * 8589934592)) (IntKind.u64.wrap (IntKind.u64.wrap 1 * 4294967296))) (IntKind.u64.wrap ((p : Nat) : Int)) = ((l * 8589934592 + 4294967296 + p : Nat) : Int) := by decide
set_option maxRecDepth 20000 in
theorem key32 : ∀ l, l < 10 → ∀ p, p < 10 → bits BinOp.or IntKind.u64 (IntKind.u64.wrap (IntKind.u64.wrap ((l : Nat) : Int) * 4294967296)) (IntKind.u64.wrap ((p : Nat) : Int)) = ((l * 4294967296 + p : Nat) : Int) := by decide

set_option maxRecDepth 20000 in
set_option maxHeartbeats 6400000 in
theorem park_calls (c : Tc) (K D : Nat → Option Ent) (v : Tv) (w : World) (J : List Nat) (O I : Nat → List Nat) (L : Nat → Int) (B m u : Nat) (h : St c K v w) (hR : Rw c K v D J O I L B m) (hb : c.base ≤ w.heap.size) (hB : B ≤ 8000) (hu : u < J.length + 2) (hL : 0 ≤ L u ∧ L u ≤ 9) :
    Calls Yba.prog 73 #[.pointer (some ⟨c.C, 0, none⟩), .pointer (some ⟨c.TT, 0, none⟩), .int .i64 (u : Nat)] w fun e w' => e = .returned (.tuple #[]) ∧ Below c.base w w' ∧ ∃ K' v', St c K' v' w' ∧ v'.work = v.work ∧ v'.fresh = v.fresh ∧ Rw c K' v' D J O I L (B + 1) m := by
  have hJ7 := hR.lJ
  obtain ⟨f8, e8, b8⟩ := hR.r8
  obtain ⟨gX, cX, hXv, _⟩ := h.sep.form e8 |>.2 |>.resolve_left (by rintro ⟨_, h2⟩; simp at h2)
  have hXv : v.nxt = .slice (some ⟨gX, 0, none⟩) (J.length + 2) cX := hXv
  have e8' : K 8 = some ⟨3, 1, J.length + 2, .slice (some ⟨gX, 0, none⟩) (J.length + 2) cX, rowOf f8 (J.length + 2)⟩ := by rw [e8, hXv]
  have t3 : w.cell? ⟨c.TT, 3, none⟩ = some (.slice (some ⟨gX, 0, none⟩) (J.length + 2) cX) := by rw [← hXv]; exact h.hTT.cell? 3
  have cx := h.sep.cell e8' (rowOf_get f8 hu)
  have fx := h.sep.free e8' u
  have hu' : (u : Int) < ((J.length : Int) + 2) := by omega
  have hs1 := h.sep.put e8' (j := u) (.int .i64 (-1))
  rw [rowOf_set] at hs1
  have hst1 := h.grow hs1 (upd_ty h.ty _ _ ty3) (r := some gX) ⟨rfl, rfl, rfl, by simp, fun b _ hb => Below.heap_setCell _ _ _ _ (fun e => hb (by rw [e]))⟩ (fun b hb => ⟨8, _, e8', hb⟩)
  have hbl1 : Below c.base w (w.setCell ⟨gX, u, none⟩ (.int .i64 (-1))) := (Below.refl _ _).setCell (h.sep.lt e8' gX rfl).1 _
  have hsz1 : c.base ≤ (w.setCell ⟨gX, u, none⟩ (.int .i64 (-1))).heap.size := by simpa using hb
  obtain ⟨gL, cL, hLv, _⟩ := h.sep.form hR.r7 |>.2 |>.resolve_left (by rintro ⟨_, h2⟩; simp at h2)
  have hLv : v.len = .slice (some ⟨gL, 0, none⟩) (J.length + 2) cL := hLv
  obtain ⟨gI, cI, hidv, _⟩ := h.sep.form hR.r1 |>.2 |>.resolve_left (by rintro ⟨_, h2⟩; simp at h2)
  have hids : v.ids = .slice (some ⟨gI, 0, none⟩) (J.length + 2) cI := hidv
  obtain ⟨pk, e14, b14⟩ := hR.r14
  obtain ⟨lu, hlu⟩ : ∃ lu : Nat, L u = (lu : Int) := ⟨(L u).toNat, by omega⟩
  obtain ⟨ui, hui⟩ : ∃ ui, (0 :: c.N :: J)[u]? = some ui := ⟨_, List.getElem?_eq_getElem (by simp; omega)⟩
  have HR : Hid (Rw c K v D J O I L B m) := hR
  have HB8 : Hid (∀ p, -1 ≤ f8 p ∧ f8 p ≤ (B : Int)) := b8
  have E7 : upd K 8 ⟨3, 1, J.length + 2, .slice (some ⟨gX, 0, none⟩) (J.length + 2) cX, rowOf (fun y => if y = u then -1 else f8 y) (J.length + 2)⟩ 7 = some ⟨3, 1, J.length + 2, .slice (some ⟨gL, 0, none⟩) (J.length + 2) cL, rowOf L (J.length + 2)⟩ := by rw [upd_other _ _ (by omega), hR.r7, hLv]
  have E1 : upd K 8 ⟨3, 1, J.length + 2, .slice (some ⟨gX, 0, none⟩) (J.length + 2) cX, rowOf (fun y => if y = u then -1 else f8 y) (J.length + 2)⟩ 1 = some ⟨3, 1, J.length + 2, .slice (some ⟨gI, 0, none⟩) (J.length + 2) cI, ints (0 :: c.N :: J)⟩ := by rw [upd_other _ _ (by omega), hR.r1, hids]
  have E14 : upd K 8 ⟨3, 1, J.length + 2, .slice (some ⟨gX, 0, none⟩) (J.length + 2) cX, rowOf (fun y => if y = u then -1 else f8 y) (J.length + 2)⟩ 14 = some ⟨22, 1, pk.length, v.parked, u64s pk⟩ := by rw [upd_other _ _ (by omega)]; exact e14
  obtain ⟨K1, hK1⟩ : ∃ K1, K1 = upd K 8 ⟨3, 1, J.length + 2, .slice (some ⟨gX, 0, none⟩) (J.length + 2) cX, rowOf (fun y => if y = u then -1 else f8 y) (J.length + 2)⟩ := ⟨_, rfl⟩
  rw [← hK1] at hst1 E7 E1 E14
  have HK1 : Hid (K1 = upd K 8 ⟨3, 1, J.length + 2, .slice (some ⟨gX, 0, none⟩) (J.length + 2) cX, rowOf (fun y => if y = u then -1 else f8 y) (J.length + 2)⟩) := hK1
  clear hR b8 hs1 hK1
  go_enter Yba.func73, Yba.ntmps73
  go_upto_region 1 with fail
  generalize w.setCell ⟨gX, u, none⟩ (.int .i64 (-1)) = w1 at hst1 hbl1 hsz1 ⊢
  have t2 : w1.cell? ⟨c.TT, 2, none⟩ = some (.slice (some ⟨gL, 0, none⟩) (J.length + 2) cL) := by rw [← hLv]; exact hst1.hTT.cell? 2
  have cl := hst1.sep.cell E7 (rowOf_get L hu)
  rw [hlu] at cl
  have ci := hst1.sep.cell E1 (ints_at hui)
  have HKEY : Hid _ := key33 lu (by omega) u (by omega)
  have hG1 : St c K1 { v with parked := v.parked } w1.drew := hst1.drew
  go_region_with (first | (go_at_call 52; refine Calls.mono (cost_calls c K1 v _ hst1.drew gI (J.length + 2) cI u (ui : Int) hids hu ci) ?_; rintro e w2 ⟨rfl, rfl⟩) | (go_at_call 53; rw [HKEY.out]; refine Calls.mono (heapPush_calls (locP c v) K1 14 (lu * 8589934592 + 4294967296 + u) v.parked pk w1.drew E14 hG1 hsz1 (by omega)) ?_; rintro e w3 ⟨rfl, g3, c3, ⟨Q3, hQ3, hst3⟩, hbl3⟩))
  all_goals
    go_wp2_with fail
    go_end0
    refine ⟨rfl, (below_drewN hbl1 1).trans hbl3, _, _, hst3, rfl, rfl, ?_⟩
    have hR := HR.out
    have hl3 : Q3.length = pk.length + 1 := by have := hQ3.length_eq; simpa using this
    refine hR.turn (fun k h1 h2 h3 h4 h5 h6 => by rw [upd_other _ _ h5, HK1.out, upd_other _ _ h4]) rfl (by omega) ?_ (by rw [upd_other _ _ (by omega), HK1.out, upd_other _ _ (by omega)]; exact hR.r7) ⟨fun y => if y = u then -1 else f8 y, by rw [upd_other _ _ (by omega), HK1.out, upd_same]; exact congrArg _ (by rw [← hXv]), fun y => ?_⟩ ⟨Q3, by rw [upd_same, hl3], by omega⟩ ?_
    · rw [upd_other _ _ (by omega), HK1.out, upd_other _ _ (by omega)]
      obtain ⟨f6, q6, b6⟩ := hR.r6
      exact ⟨f6, q6, fun y => by have := b6 y; omega⟩
    · have := HB8.out y
      show -1 ≤ (if y = u then (-1 : Int) else f8 y) ∧ (if y = u then (-1 : Int) else f8 y) ≤ ((B + 1 : Nat) : Int)
      split
      · omega
      · omega
    · rw [upd_other _ _ (by omega), HK1.out, upd_other _ _ (by omega)]
      obtain ⟨gd, q18, b18, p18⟩ := hR.r18
      exact ⟨gd, q18, by omega, p18⟩
end Go.Proofs.Ybulkuoc
