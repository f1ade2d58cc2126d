/- join. -/
import Derived.Test.YbulkuocRw
namespace Go.Proofs.Ybulkuoc
open Go.RowKit

theorem step_app1 {ops : Array Oper} {o : Oper} {a : Act} {Kc : Act → World → Prop} {Q : Exit → Act → World → Prop} {E : Prop} (W : World) (hgd : o.guard = none) (s x : Operand) (t : TypeId) (ho : o.op = .call { callee := .builtin .append, args := #[s, x], argTypes := #[t, t] })
    {base : Nat} {e : TypeId} {K : Nat → Option Ent} (hs : Sep W base K) {k n : Nat} {v : Value} {xs : List Value} (hk : K k = some ⟨e, 1, n, v, xs⟩) (ht : Yba.prog.underlying t = some (.slice e)) {z : Value} {bytes : Nat} (hinfo : (Yba.prog.info? e).map (fun i => (i.zero, i.size, i.bytes)) = some (some z, 1, bytes)) (hzc : z.cells.size = 1)
    (hse : a.eval s = v) (B c : Nat) (y : Value) (hx : a.eval x = .slice (some ⟨B, 0, none⟩) 1 c) (hB : W.cell? ⟨B, 0, none⟩ = some y) (hy : y.oneCell' = true) (hn : n + 1 ≤ 1000000) (hbytes : bytes ≤ 64) (hb : base ≤ W.heap.size)
    (hK : ∀ g c' w', Sep w' base (upd K k ⟨e, 1, n + 1, .slice (some ⟨g, 0, none⟩) (n + 1) c', xs ++ [y]⟩) → W.grownBy w' v.ownBlock → Below base W w' → Kc (a.put o.dst (.slice (some ⟨g, 0, none⟩) (n + 1) c')) w') :
    if Region.wanted o (yielded ops a.tmps) = true then Oper.wp Yba.prog o a W Kc Q else E := by
  obtain ⟨i3, hi, hz0, hz1, hz2⟩ := info_parts hinfo
  have hbb : (n + 1) * bytes ≤ 1000000 * 64 := Nat.mul_le_mul hn hbytes
  refine step_append_lies W hgd s x t ho base e i3 z 1 bytes ht hi hz0 hz1 hz2 hzc (by omega) v n xs hse (hs.own k _ hk) ⟨B, 0, none⟩ 1 c [y] hx rfl ?_ (by simpa using hy) (by omega) (by unfold maxLen; omega) (by omega) hb W.heap.size rfl ?_
  · intro j u hj
    cases j with
    | zero => simp at hj; subst hj; simpa [Addr.add] using hB
    | succ j => simp at hj
  · intro g c' w' ho' hg hat hlt
    refine hK g c' w' (hs.turn hk ho' hg ?_) hg ((Below.refl base W).grown hg hb (fun b hb' => (hs.lt hk b hb').1))
    intro b hb'
    simp [Value.ownBlock] at hb'
    subst hb'
    rcases hat with h | h
    · exact .inl h
    · exact .inr (by omega)

theorem rowOf_snoc (d : Nat → Int) (N : Nat) (x : Int) : rowOf d N ++ [.int .i64 x] = rowOf (fun y => if y = N then x else d y) (N + 1) := by
  simp only [rowOf, List.range_succ (n := N), List.map_append, List.map_cons, List.map_nil, if_true]
  congr 1
  apply List.map_congr_left
  intro y hy
  have := List.mem_range.1 hy
  rw [if_neg (by omega)]

/-- The lists of those that lead to a place, behind i rounds of join. -/
def inAt (I : Nat → List Nat) (lo : List Nat) (M i q : Nat) : List Nat := if q = M then [] else if q ∈ lo.take i then I q ++ [M] else I q
theorem inAt_step {I : Nat → List Nat} {lo : List Nat} {M i q : Nat} (hq : lo[i]? = some q) (hqM : q ≠ M) (hnd : lo.Nodup) (y : Nat) : inAt I lo M (i + 1) y = if y = q then inAt I lo M i q ++ [M] else inAt I lo M i y := by
  obtain ⟨hi, hv⟩ := List.getElem?_eq_some_iff.1 hq
  have hno : q ∉ lo.take i := by
    intro hm
    obtain ⟨j, hj, e⟩ := List.getElem_of_mem hm
    rw [List.getElem_take] at e
    have hji : j < i := by simp at hj; omega
    have := List.pairwise_iff_getElem.1 (List.nodup_iff_pairwise_ne.1 hnd) j i (by omega) hi hji
    exact this (e.trans hv.symm)
  unfold inAt
  by_cases e : y = q
  · subst e
    simp only [if_neg hqM, if_neg hno, if_true]
    rw [if_pos]
    rw [List.take_add_one, hq]
    simp
  · rw [if_neg e]
    by_cases e1 : y = M
    · simp [e1]
    · simp only [if_neg e1]
      rw [List.take_add_one, hq]
      simp [e]

def ch4 (C M : Nat) (xo xi xg : List Value) (y : Value) : Nat → Ch
  | 0 => ⟨2, 1010, 23, 26, M, xo, y, C, 10, fun v => v.out, fun v x => { v with out := x }⟩
  | 1 => ⟨3, 1011, 23, 26, M, xi, .slice none 0 0, C, 11, fun v => v.inn, fun v x => { v with inn := x }⟩
  | _ => ⟨4, 1012, 33, 4, M, xg, .bool false, C, 12, fun v => v.gone, fun v x => { v with gone := x }⟩
def ch5 (C M : Nat) (xh xa : List Value) : Nat → Ch
  | 0 => ⟨10, 1010, 36, 125, M, xh, .pointer none, C, 22, fun v => v.home, fun v x => { v with home := x }⟩
  | _ => ⟨11, 1011, 31, 21, M, xa, .int .i32 0, C, 23, fun v => v.at', fun v x => { v with at' := x }⟩
def ch7 (C M : Nat) (xr xf : List Value) : Nat → Ch
  | 0 => ⟨5, 1010, 33, 4, M, xr, .bool true, C, 0, fun v => v.reached, fun v x => { v with reached := x }⟩
  | _ => ⟨6, 1011, 26, 3, M, xf, .int .i64 0, C, 1, fun v => v.frm, fun v x => { v with frm := x }⟩
def ch8 (C M M1 : Nat) (xl xn xm : List Value) (p : Int) : Nat → Ch
  | 0 => ⟨7, 1010, 26, 3, M, xl, .int .i64 (-1), C, 2, fun v => v.len, fun v x => { v with len := x }⟩
  | 1 => ⟨8, 1011, 26, 3, M, xn, .int .i64 0, C, 3, fun v => v.nxt, fun v x => { v with nxt := x }⟩
  | _ => ⟨9, 1012, 26, 3, M1, xm, .int .i64 p, C, 4, fun v => v.met, fun v x => { v with met := x }⟩

set_option maxRecDepth 20000 in
set_option maxHeartbeats 6400000 in
theorem join_calls (c : Tc) (K D : Nat → Option Ent) (v : Tv) (w : World) (J l : List Nat) (O I : Nat → List Nat) (L : Nat → Int) (B m u ks : Nat) (x : Value) (h : St c K v w) (hR : Rw c K v D J O I L B m) (hb : c.base ≤ w.heap.size)
    (hu1 : 1 ≤ u) (huN : u < c.N) (huJ : u ∉ J) (hJ7 : J.length < 7) (hB : B ≤ 5000) (hks : K ks = some ⟨3, 1, l.length, x, ints l⟩) (hks1 : 1000 ≤ ks) (hks2 : ks < 1010) (hl : l.length ≤ 8) (hlt : ∀ y ∈ l, y < c.N) (hul : u ∉ l) (hnd : (plsOf (plJ (J ++ [u])) ((J.length + 2 : Nat) : Int) l).Nodup) :
    Calls Yba.prog 30 #[.pointer (some ⟨c.C, 0, none⟩), .int .i64 (u : Nat), x] w fun e w' => e = .returned (.tuple #[]) ∧ Below c.base w w' ∧ ∃ K' v' lo, lo.Perm (plsOf (plJ (J ++ [u])) ((J.length + 2 : Nat) : Int) l) ∧ St c K' v' w' ∧ v'.work = v.work ∧
      Rw c K' v' D (J ++ [u]) (fun p => if p = J.length + 2 then lo else O p) (fun q => if q = J.length + 2 then [] else if q ∈ lo then I q ++ [J.length + 2] else I q) (fun p => if p = J.length + 2 then -1 else L p) (B + 8) m := by
  obtain ⟨gI, cI, hidv, _⟩ := h.sep.form hR.r1 |>.2 |>.resolve_left (by rintro ⟨_, h2⟩; simp at h2)
  have hids : v.ids = .slice (some ⟨gI, 0, none⟩) (J.length + 2) cI := hidv
  obtain ⟨gp, cp, hplv, _⟩ := h.sep.form hR.r0 |>.2 |>.resolve_left (by rintro ⟨_, h2⟩; simp at h2; omega)
  have hpl : c.pl = .slice (some ⟨gp, 0, none⟩) c.N cp := hplv
  have c6 : w.cell? ⟨c.C, 6, none⟩ = some (.slice (some ⟨gI, 0, none⟩) (J.length + 2) cI) := by rw [← hids]; exact h.hC.cell? 6
  have HLT : Hid (∀ y ∈ l, y < c.N) := hlt
  have HND : Hid (plsOf (plJ (J ++ [u])) ((J.length + 2 : Nat) : Int) l).Nodup := hnd
  have HR : Hid (Rw c K v D J O I L B m) := hR
  have huN' : (u : Int) < (c.N : Int) := by omega
  clear hlt hnd hR hidv hplv
  go_enter Yba.func30, Yba.ntmps30
  go_upto_region 2 with (first | (at_builtin; refine wpList_app1 _ rfl _ _ 26 rfl (h.sep.alloc _) HR.out.r1 Yba.underlying26 info3 rfl (by first | rfl | exact hids.symm) w.heap.size 1 (.int .i64 (u : Int)) rfl (by simp) rfl (by omega) (by omega) (by simp; omega) ?_; intro g2 c2 w2 hs2 hg2 hb2; have hst2 := (h.alloc _).grow hs2 (upd_ty h.ty _ _ ty3) hg2 (fun b hb => ⟨1, _, HR.out.r1, hb⟩); have d6 : w2.cell? ⟨c.C, 6, none⟩ = some v.ids := hst2.hC.cell? 6; have f6 := hst2.hC.free 6) | fail)
  have hbl3 : Below c.base w (w2.setCell ⟨c.C, 6, none⟩ (.slice (some ⟨g2, 0, none⟩) (J.length + 2 + 1) c2)) := (((Below.refl c.base w).alloc hb (.cells #[.int .i64 (u : Int)] 3)).trans hb2).setCell h.lo.1 _
  have hst3 : St c _ { v with ids := .slice (some ⟨g2, 0, none⟩) (J.length + 2 + 1) c2 } (w2.setCell ⟨c.C, 6, none⟩ (.slice (some ⟨g2, 0, none⟩) (J.length + 2 + 1) c2)) := hst2.setC 6 _ rfl rfl rfl rfl rfl rfl rfl
  have hsz3 : c.base ≤ (w2.setCell ⟨c.C, 6, none⟩ (.slice (some ⟨g2, 0, none⟩) (J.length + 2 + 1) c2)).heap.size := by have := hg2.size; simp at this ⊢; omega
  generalize w2.setCell ⟨c.C, 6, none⟩ (.slice (some ⟨g2, 0, none⟩) (J.length + 2 + 1) c2) = w3 at hbl3 hst3 hsz3 ⊢
  clear hst2 hb2 hg2 hs2 d6 f6 w2
  have e0 : upd K 1 ⟨3, 1, J.length + 2 + 1, .slice (some ⟨g2, 0, none⟩) (J.length + 2 + 1) c2, ints (0 :: c.N :: J) ++ [.int .i64 (u : Int)]⟩ 0 = some ⟨21, 1, c.N, .slice (some ⟨gp, 0, none⟩) c.N cp, plRow (plJ J) c.N⟩ := by rw [upd_other _ _ (by omega), ← hpl]; exact HR.out.r0
  have c1 : w3.cell? ⟨c.C, 1, none⟩ = some (.slice (some ⟨gp, 0, none⟩) c.N cp) := by rw [← hpl]; exact hst3.hC.cell? 1
  have cpu := hst3.sep.cell e0 (plRow_get (plJ J) huN)
  have fpu := hst3.sep.free e0 u
  have hs4 := hst3.sep.put e0 (j := u) (.int .i32 ((J.length + 3 : Nat) : Int))
  rw [plRow_set, ← hpl] at hs4
  have hg4 : w3.grownBy (w3.setCell ⟨gp, u, none⟩ (.int .i32 ((J.length + 3 : Nat) : Int))) (some gp) := ⟨rfl, rfl, rfl, by simp, fun b _ hb => Below.heap_setCell _ _ _ _ (fun e => hb (by rw [e]))⟩
  have hst4 := hst3.grow hs4 (upd_ty hst3.ty _ _ ty21) hg4 (fun b hb => ⟨0, _, e0, hb⟩)
  have hbl4 : Below c.base w (w3.setCell ⟨gp, u, none⟩ (.int .i32 ((J.length + 3 : Nat) : Int))) := hbl3.setCell (hst3.sep.lt e0 gp rfl).1 _
  have hsz4 : c.base ≤ (w3.setCell ⟨gp, u, none⟩ (.int .i32 ((J.length + 3 : Nat) : Int))).heap.size := by simpa using hsz3
  have hcast : ((J.length + 3 : Nat) : Int) = (J.length : Int) + 2 + 1 := by omega
  have hplE : plRow (fun y => if y = u then J.length + 3 else plJ J y) c.N = plRow (plJ (J ++ [u])) c.N := by
    congr 1
    funext y
    exact (plJ_snoc huJ (by omega) y).symm
  rw [hcast] at hst4 hbl4 hsz4
  rw [hplE] at hst4
  have hL3 : ints (0 :: c.N :: J) ++ [Value.int .i64 (u : Int)] = ints (0 :: c.N :: (J ++ [u])) := by simp [ints]
  rw [hL3] at hst4
  obtain ⟨K4, hst4', E0, E1, EF⟩ : ∃ K4, St c K4 { v with ids := .slice (some ⟨g2, 0, none⟩) (J.length + 2 + 1) c2 } (w3.setCell ⟨gp, u, none⟩ (.int .i32 ((J.length : Int) + 2 + 1))) ∧ K4 0 = some ⟨21, 1, c.N, c.pl, plRow (plJ (J ++ [u])) c.N⟩ ∧ K4 1 = some ⟨3, 1, J.length + 2 + 1, .slice (some ⟨g2, 0, none⟩) (J.length + 2 + 1) c2, ints (0 :: c.N :: (J ++ [u]))⟩ ∧ ∀ n, n ≠ 0 → n ≠ 1 → K4 n = K n :=
    ⟨_, hst4, upd_same _ _ _, by rw [upd_other _ _ (by omega), upd_same], fun n h0 h1 => by rw [upd_other _ _ h0, upd_other _ _ h1]⟩
  clear hs4 hg4 hcast hplE hL3 hst4 e0
  go_upto_region 3 with fail
  clear cpu fpu c1
  generalize w3.setCell ⟨gp, u, none⟩ (.int .i32 ((J.length : Int) + 2 + 1)) = w4 at hbl4 hst4' hsz4 ⊢
  obtain ⟨gg, cg, hgov, _⟩ := h.sep.form HR.out.r4 |>.2 |>.resolve_left (by rintro ⟨_, h2⟩; simp at h2)
  have hgo : v.gone = .slice (some ⟨gg, 0, none⟩) (J.length + 2) cg := hgov
  clear hgov hst3 hbl3 hsz3 c6
  go_upto_region 4 with (go_at_call 26; refine Calls.mono (placesOf_calls c K4 _ w4 hst4' hsz4 (300 + (J.length + 2)) ks (J.length + 2 + 1) (J.length + 2) gg cg gp cp g2 c2 _ x l (0 :: c.N :: (J ++ [u])) (plJ (J ++ [u])) (by rw [EF ks (by omega) (by omega)]; exact hks) hl HLT.out (by omega) hpl E0 hgo (by rw [EF 4 (by omega) (by omega)]; exact HR.out.r4) (by omega) (by intro y hy; have := HLT.out y hy; rw [plJ_snoc huJ (by omega) y, if_neg (by rintro rfl; exact hul hy)]; exact plJ_le J y) (by omega) (by omega) rfl E1 (by simp) HND.out) ?_; rintro e w5 ⟨y, rfl, hbl5, lo, hperm, hst5⟩)
  have hsz5 : c.base ≤ w5.heap.size := by have := hbl5.size; omega
  obtain ⟨vsO, eO, hO⟩ := HR.out.r2.ex
  obtain ⟨vsI, eI, hI⟩ := HR.out.r3.ex
  have hpc : ((J.length + 2 : Nat) : Int) = (J.length : Int) + 2 := by omega
  rw [← hpc] at hperm
  have hlo8 : lo.length ≤ 8 := by have := hperm.length_eq; have := plsOf_length (plJ (J ++ [u])) ((J.length + 2 : Nat) : Int) l; omega
  obtain ⟨K5, hst5', F0, F1, Fy, FF⟩ : ∃ K5, St c K5 { v with ids := .slice (some ⟨g2, 0, none⟩) (J.length + 2 + 1) c2 } w5 ∧ K5 0 = some ⟨21, 1, c.N, c.pl, plRow (plJ (J ++ [u])) c.N⟩ ∧ K5 1 = some ⟨3, 1, J.length + 2 + 1, .slice (some ⟨g2, 0, none⟩) (J.length + 2 + 1) c2, ints (0 :: c.N :: (J ++ [u]))⟩ ∧ K5 (300 + (J.length + 2)) = some ⟨3, 1, lo.length, y, ints lo⟩ ∧ ∀ n, n ≠ 0 → n ≠ 1 → n ≠ 300 + (J.length + 2) → K5 n = K n :=
    ⟨_, hst5, by rw [upd_other _ _ (by omega)]; exact E0, by rw [upd_other _ _ (by omega)]; exact E1, upd_same _ _ _, fun n h0 h1 h2 => by rw [upd_other _ _ h2]; exact EF n h0 h1⟩
  obtain ⟨ya, yc, hyv, _⟩ := hst5'.sep.shape Fy
  subst hyv
  clear hst5 hst4' E0 E1 EF
  obtain ⟨v5, hv5⟩ : ∃ v5 : Tv, v5 = { v with ids := .slice (some ⟨g2, 0, none⟩) (J.length + 2 + 1) c2 } := ⟨_, rfl⟩
  rw [← hv5] at hst5'
  have E2 : K5 2 = some ⟨26, 1, J.length + 2, v5.out, vsO⟩ := by rw [FF 2 (by omega) (by omega) (by omega), hv5]; exact eO
  have E3 : K5 3 = some ⟨26, 1, J.length + 2, v5.inn, vsI⟩ := by rw [FF 3 (by omega) (by omega) (by omega), hv5]; exact eI
  have E4 : K5 4 = some ⟨4, 1, J.length + 2, v5.gone, List.replicate (J.length + 2) (.bool false)⟩ := by rw [FF 4 (by omega) (by omega) (by omega), hv5]; exact HR.out.r4
  have hst5 := hst5'
  go_cut [] from 40 to 67 (fun wc => ∃ K6 v6, St c K6 v6 wc ∧ Below c.base w wc ∧ c.base ≤ wc.heap.size ∧ v6 = { v5 with out := v6.out, inn := v6.inn, gone := v6.gone } ∧ (∀ n, (∀ j, j < 3 → n ≠ (ch4 c.C (J.length + 2) vsO vsI (List.replicate (J.length + 2) (.bool false)) (.slice ya lo.length yc) j).r ∧ n ≠ (ch4 c.C (J.length + 2) vsO vsI (List.replicate (J.length + 2) (.bool false)) (.slice ya lo.length yc) j).T) → K6 n = K5 n) ∧ ∀ j, j < 3 → Grown (ch4 c.C (J.length + 2) vsO vsI (List.replicate (J.length + 2) (.bool false)) (.slice ya lo.length yc) j) K6 ((ch4 c.C (J.length + 2) vsO vsI (List.replicate (J.length + 2) (.bool false)) (.slice ya lo.length yc) j).get v6))
  case first =>
    refine wp_chains (by kernel_rfl) (by kernel_rfl) hst5 hsz5 3 (ch4 c.C (J.length + 2) vsO vsI (List.replicate (J.length + 2) (.bool false)) (.slice ya lo.length yc)) ?ok ?hr ?hrT ?hgo (fun v1 => v1 = { v5 with out := v1.out, inn := v1.inn, gone := v1.gone }) rfl ?S ⟨fun i => ([some (.pointer (some ⟨c.C, 0, none⟩)), some (.pointer (some ⟨c.C, 0, none⟩)), some (.pointer (some ⟨c.C, 0, none⟩)), some (.pointer (some ⟨c.C, 0, none⟩)), some (.pointer (some ⟨c.C, 0, none⟩)), some (.pointer (some ⟨c.C, 10, none⟩)), some (v5.out), some (.slice ya lo.length yc), none, none, some (.pointer (some ⟨c.C, 0, none⟩)), some (.pointer (some ⟨c.C, 0, none⟩)), some (.pointer (some ⟨c.C, 11, none⟩)), some (v5.inn), none, none, some (.pointer (some ⟨c.C, 0, none⟩)), some (.pointer (some ⟨c.C, 0, none⟩)), some (.pointer (some ⟨c.C, 12, none⟩)), some (v5.gone), none, none, some (.pointer (some ⟨c.C, 0, none⟩)), some (.pointer (some ⟨c.C, 10, none⟩)), none, some (.pointer (some ⟨c.C, 0, none⟩)), some (.pointer (some ⟨c.C, 11, none⟩)), none, some (.pointer (some ⟨c.C, 0, none⟩)), some (.pointer (some ⟨c.C, 12, none⟩)), none] : List (Option Value)).getD i none, fun i => ([some 40, some 41, some 42, some 43, some 44, some 45, some 46, some 47, some 48, some 49, some 50, some 51, some 52, some 53, some 54, some 55, some 56, some 57, some 58, some 59, some 60, some 61, some 62, some 63, none, some 64, some 65, none, some 66, some 67, none] : List (Option Nat)).getD i none, fun i => ([none, none, none, none, none, none, some 0, none, none, none, none, none, none, some 1, none, none, none, none, none, some 2, none, none, none, none, none, none, none, none, none, none, none] : List (Option Nat)).getD i none, fun i => ([none, none, none, none, none, none, none, none, some 0, none, none, none, none, none, some 1, none, none, none, none, none, some 2, none, none, none, none, none, none, none, none, none, none] : List (Option Nat)).getD i none, fun i => ([none, none, none, none, none, none, none, none, none, some 0, none, none, none, none, none, some 1, none, none, none, none, none, some 2, none, none, none, none, none, none, none, none, none] : List (Option Nat)).getD i none, fun i => ([none, none, none, none, none, none, none, none, none, none, none, none, none, none, none, none, none, none, none, none, none, none, none, none, some 0, none, none, some 1, none, none, some 2] : List (Option Nat)).getD i none⟩ 40 67 ?hslot ?hinj ?hub ?hua ?hus ?hlt ?hop ?hall ?hend
    case ok =>
      intro j hj
      rcases (by omega : j = 0 ∨ j = 1 ∨ j = 2) with rfl|rfl|rfl
      · exact ⟨E2, ty26, Yba.underlying23, ⟨_, _, info26, rfl, by omega⟩, by simp [ch4]; omega, rfl, fun K v w x hs => hs.setC 10 x rfl rfl rfl rfl rfl rfl rfl, fun K v w hs => ⟨hs.hC.cell? 10, hs.hC.free 10, hs.lo.1⟩, fun _ _ => rfl⟩
      · exact ⟨E3, ty26, Yba.underlying23, ⟨_, _, info26, rfl, by omega⟩, by simp [ch4]; omega, rfl, fun K v w x hs => hs.setC 11 x rfl rfl rfl rfl rfl rfl rfl, fun K v w hs => ⟨hs.hC.cell? 11, hs.hC.free 11, hs.lo.1⟩, fun _ _ => rfl⟩
      · exact ⟨E4, ty4, Yba.underlying33, ⟨_, _, info4, rfl, by omega⟩, by simp [ch4]; omega, rfl, fun K v w x hs => hs.setC 12 x rfl rfl rfl rfl rfl rfl rfl, fun K v w hs => ⟨hs.hC.cell? 12, hs.hC.free 12, hs.lo.1⟩, fun _ _ => rfl⟩
    case hr => intro i j hi hj hij; rcases (by omega : i = 0 ∨ i = 1 ∨ i = 2) with rfl|rfl|rfl <;> rcases (by omega : j = 0 ∨ j = 1 ∨ j = 2) with rfl|rfl|rfl <;> first | exact absurd rfl hij | simp [ch4]
    case hrT => intro i j hi hj; rcases (by omega : i = 0 ∨ i = 1 ∨ i = 2) with rfl|rfl|rfl <;> rcases (by omega : j = 0 ∨ j = 1 ∨ j = 2) with rfl|rfl|rfl <;> simp [ch4]
    case hgo => intro i j hi hj hij v x; rcases (by omega : i = 0 ∨ i = 1 ∨ i = 2) with rfl|rfl|rfl <;> rcases (by omega : j = 0 ∨ j = 1 ∨ j = 2) with rfl|rfl|rfl <;> first | exact absurd rfl hij | rfl
    case S => intro j v1 x hj hs; rcases (by omega : j = 0 ∨ j = 1 ∨ j = 2) with rfl|rfl|rfl <;> (rw [hs]; rfl)
    case hslot => intro i s hi; have := allL (p := fun s => decide (40 ≤ s ∧ s ≤ 67)) (by decide) hi; simp at this; exact ⟨this.1, this.2, by simp; omega⟩
    case hinj => intro i j _ _ hij s h1 h2; exact hij (uniqL (by decide) h1 h2)
    case hub => intro i i2 j h1 h2; exact uniqL (by decide) h1 h2
    case hua => intro i i2 j h1 h2; exact uniqL (by decide) h1 h2
    case hus => intro i i2 j h1 h2; exact uniqL (by decide) h1 h2
    case hlt => rintro i j (h1 | h1 | h1 | h1) <;> exact of_decide_eq_true (allL (p := fun s => decide (s < 3)) (by decide) h1)
    case hall =>
      intro j hj
      rcases (by omega : j = 0 ∨ j = 1 ∨ j = 2) with rfl|rfl|rfl
      · exact ⟨24, by decide, rfl⟩
      · exact ⟨27, by decide, rfl⟩
      · exact ⟨30, by decide, rfl⟩
    case hop =>
      intro i o ho
      match i, ho with
      | 0, ho => simp at ho; subst ho; exact ⟨rfl, rfl, .inl ⟨_, rfl, rfl, rfl, rfl, rfl, fun a w hF hP => exec_move rfl (eval_at ((hF.2.2 0 (.inl (by decide))).trans rfl))⟩⟩
      | 1, ho => simp at ho; subst ho; exact ⟨rfl, rfl, .inl ⟨_, rfl, rfl, rfl, rfl, rfl, fun a w hF hP => exec_move rfl (eval_at ((hF.2.2 0 (.inl (by decide))).trans rfl))⟩⟩
      | 2, ho => simp at ho; subst ho; exact ⟨rfl, rfl, .inl ⟨_, rfl, rfl, rfl, rfl, rfl, fun a w hF hP => exec_move rfl (eval_at ((hF.2.2 0 (.inl (by decide))).trans rfl))⟩⟩
      | 3, ho => simp at ho; subst ho; exact ⟨rfl, rfl, .inl ⟨_, rfl, rfl, rfl, rfl, rfl, fun a w hF hP => exec_move rfl (eval_at ((hF.2.2 0 (.inl (by decide))).trans rfl))⟩⟩
      | 4, ho => simp at ho; subst ho; exact ⟨rfl, rfl, .inl ⟨_, rfl, rfl, rfl, rfl, rfl, fun a w hF hP => exec_nil rfl (eval_at (hP ⟨3, .data⟩ (by simp) rfl _ _ rfl rfl))⟩⟩
      | 5, ho => simp at ho; subst ho; exact ⟨rfl, rfl, .inl ⟨_, rfl, rfl, rfl, rfl, rfl, fun a w hF hP => by have hx := hP ⟨4, .data⟩ (by simp) rfl _ _ rfl rfl; simp [execOp, hx, go_sem]⟩⟩
      | 6, ho => simp at ho; subst ho; exact ⟨rfl, rfl, .inr (.inl ⟨0, by decide, rfl, rfl, rfl, rfl, rfl, fun a w hF hP hc => by have hx := hP ⟨5, .data⟩ (by simp) rfl _ _ rfl rfl; simp only [ch4] at hc ⊢; simp [execOp, hx, hc, go_sem]⟩)⟩
      | 7, ho => simp at ho; subst ho; exact ⟨rfl, rfl, .inl ⟨_, rfl, rfl, rfl, rfl, rfl, fun a w hF hP => exec_move rfl (eval_at ((hF.2.2 7 (.inl (by decide))).trans rfl))⟩⟩
      | 8, ho => simp at ho; subst ho; exact ⟨rfl, rfl, .inr (.inr (.inl ⟨0, by decide, rfl, rfl, rfl, rfl, rfl, fun a w hF hP => by have hx := hP ⟨7, .data⟩ (by simp) rfl _ _ rfl rfl; simp [execOp, hx, go_sem, ch4]⟩))⟩
      | 9, ho => simp at ho; subst ho; exact ⟨rfl, rfl, .inr (.inr (.inr (.inl ⟨0, by decide, rfl, rfl, rfl, rfl, rfl, ⟨6, .data⟩, ⟨8, .data⟩, 46, 48, by simp, rfl, rfl, rfl, rfl, by simp, rfl, rfl, rfl, rfl⟩)))⟩
      | 10, ho => simp at ho; subst ho; exact ⟨rfl, rfl, .inl ⟨_, rfl, rfl, rfl, rfl, rfl, fun a w hF hP => exec_move rfl (eval_at ((hF.2.2 0 (.inl (by decide))).trans rfl))⟩⟩
      | 11, ho => simp at ho; subst ho; exact ⟨rfl, rfl, .inl ⟨_, rfl, rfl, rfl, rfl, rfl, fun a w hF hP => exec_nil rfl (eval_at (hP ⟨10, .data⟩ (by simp) rfl _ _ rfl rfl))⟩⟩
      | 12, ho => simp at ho; subst ho; exact ⟨rfl, rfl, .inl ⟨_, rfl, rfl, rfl, rfl, rfl, fun a w hF hP => by have hx := hP ⟨11, .data⟩ (by simp) rfl _ _ rfl rfl; simp [execOp, hx, go_sem]⟩⟩
      | 13, ho => simp at ho; subst ho; exact ⟨rfl, rfl, .inr (.inl ⟨1, by decide, rfl, rfl, rfl, rfl, rfl, fun a w hF hP hc => by have hx := hP ⟨12, .data⟩ (by simp) rfl _ _ rfl rfl; simp only [ch4] at hc ⊢; simp [execOp, hx, hc, go_sem]⟩)⟩
      | 14, ho => simp at ho; subst ho; exact ⟨rfl, rfl, .inr (.inr (.inl ⟨1, by decide, rfl, rfl, rfl, rfl, rfl, fun a w hF hP => by simp [execOp, go_sem, ch4]⟩))⟩
      | 15, ho => simp at ho; subst ho; exact ⟨rfl, rfl, .inr (.inr (.inr (.inl ⟨1, by decide, rfl, rfl, rfl, rfl, rfl, ⟨13, .data⟩, ⟨14, .data⟩, 53, 54, by simp, rfl, rfl, rfl, rfl, by simp, rfl, rfl, rfl, rfl⟩)))⟩
      | 16, ho => simp at ho; subst ho; exact ⟨rfl, rfl, .inl ⟨_, rfl, rfl, rfl, rfl, rfl, fun a w hF hP => exec_move rfl (eval_at ((hF.2.2 0 (.inl (by decide))).trans rfl))⟩⟩
      | 17, ho => simp at ho; subst ho; exact ⟨rfl, rfl, .inl ⟨_, rfl, rfl, rfl, rfl, rfl, fun a w hF hP => exec_nil rfl (eval_at (hP ⟨16, .data⟩ (by simp) rfl _ _ rfl rfl))⟩⟩
      | 18, ho => simp at ho; subst ho; exact ⟨rfl, rfl, .inl ⟨_, rfl, rfl, rfl, rfl, rfl, fun a w hF hP => by have hx := hP ⟨17, .data⟩ (by simp) rfl _ _ rfl rfl; simp [execOp, hx, go_sem]⟩⟩
      | 19, ho => simp at ho; subst ho; exact ⟨rfl, rfl, .inr (.inl ⟨2, by decide, rfl, rfl, rfl, rfl, rfl, fun a w hF hP hc => by have hx := hP ⟨18, .data⟩ (by simp) rfl _ _ rfl rfl; simp only [ch4] at hc ⊢; simp [execOp, hx, hc, go_sem]⟩)⟩
      | 20, ho => simp at ho; subst ho; exact ⟨rfl, rfl, .inr (.inr (.inl ⟨2, by decide, rfl, rfl, rfl, rfl, rfl, fun a w hF hP => by simp [execOp, go_sem, ch4]⟩))⟩
      | 21, ho => simp at ho; subst ho; exact ⟨rfl, rfl, .inr (.inr (.inr (.inl ⟨2, by decide, rfl, rfl, rfl, rfl, rfl, ⟨19, .data⟩, ⟨20, .data⟩, 59, 60, by simp, rfl, rfl, rfl, rfl, by simp, rfl, rfl, rfl, rfl⟩)))⟩
      | 22, ho => simp at ho; subst ho; exact ⟨rfl, rfl, .inl ⟨_, rfl, rfl, rfl, rfl, rfl, fun a w hF hP => exec_nil rfl (eval_at (hP ⟨0, .data⟩ (by simp) rfl _ _ rfl rfl))⟩⟩
      | 23, ho => simp at ho; subst ho; exact ⟨rfl, rfl, .inl ⟨_, rfl, rfl, rfl, rfl, rfl, fun a w hF hP => by have hx := hP ⟨22, .data⟩ (by simp) rfl _ _ rfl rfl; simp [execOp, hx, go_sem]⟩⟩
      | 24, ho => simp at ho; subst ho; exact ⟨rfl, rfl, .inr (.inr (.inr (.inr ⟨0, by decide, rfl, rfl, rfl, rfl, rfl, rfl, fun q hq => ⟨⟨6, .phase⟩, by simp, rfl, (getD_only hq (by decide) (by decide)).symm⟩, ⟨9, .data⟩, 49, by simp, rfl, rfl, rfl, fun a w p q r y hF hP hx hc hf => by have hp := hP ⟨23, .data⟩ (by simp) rfl _ _ rfl rfl; simp only [ch4] at hc hf ⊢; simp [execOp, hp, hx, hc, hf, go_sem]⟩)))⟩
      | 25, ho => simp at ho; subst ho; exact ⟨rfl, rfl, .inl ⟨_, rfl, rfl, rfl, rfl, rfl, fun a w hF hP => exec_nil rfl (eval_at (hP ⟨1, .data⟩ (by simp) rfl _ _ rfl rfl))⟩⟩
      | 26, ho => simp at ho; subst ho; exact ⟨rfl, rfl, .inl ⟨_, rfl, rfl, rfl, rfl, rfl, fun a w hF hP => by have hx := hP ⟨25, .data⟩ (by simp) rfl _ _ rfl rfl; simp [execOp, hx, go_sem]⟩⟩
      | 27, ho => simp at ho; subst ho; exact ⟨rfl, rfl, .inr (.inr (.inr (.inr ⟨1, by decide, rfl, rfl, rfl, rfl, rfl, rfl, fun q hq => ⟨⟨13, .phase⟩, by simp, rfl, (getD_only hq (by decide) (by decide)).symm⟩, ⟨15, .data⟩, 55, by simp, rfl, rfl, rfl, fun a w p q r y hF hP hx hc hf => by have hp := hP ⟨26, .data⟩ (by simp) rfl _ _ rfl rfl; simp only [ch4] at hc hf ⊢; simp [execOp, hp, hx, hc, hf, go_sem]⟩)))⟩
      | 28, ho => simp at ho; subst ho; exact ⟨rfl, rfl, .inl ⟨_, rfl, rfl, rfl, rfl, rfl, fun a w hF hP => exec_nil rfl (eval_at (hP ⟨2, .data⟩ (by simp) rfl _ _ rfl rfl))⟩⟩
      | 29, ho => simp at ho; subst ho; exact ⟨rfl, rfl, .inl ⟨_, rfl, rfl, rfl, rfl, rfl, fun a w hF hP => by have hx := hP ⟨28, .data⟩ (by simp) rfl _ _ rfl rfl; simp [execOp, hx, go_sem]⟩⟩
      | 30, ho => simp at ho; subst ho; exact ⟨rfl, rfl, .inr (.inr (.inr (.inr ⟨2, by decide, rfl, rfl, rfl, rfl, rfl, rfl, fun q hq => ⟨⟨19, .phase⟩, by simp, rfl, (getD_only hq (by decide) (by decide)).symm⟩, ⟨21, .data⟩, 61, by simp, rfl, rfl, rfl, fun a w p q r y hF hP hx hc hf => by have hp := hP ⟨29, .data⟩ (by simp) rfl _ _ rfl rfl; simp only [ch4] at hc hf ⊢; simp [execOp, hp, hx, hc, hf, go_sem]⟩)))⟩
      | i + 31, ho => simp at ho
    case hend =>
      intro a w6 K6 v6 hF
      obtain ⟨zs, hzs, hact⟩ := hF.form (by simp) (by decide)
      replace hzs : zs.length = 28 := by simpa using hzs
      obtain ⟨z40, zs0, e0, hzs0⟩ := list_cons (n := 27) hzs
      obtain ⟨z41, zs1, e1, hzs1⟩ := list_cons (n := 26) hzs0
      obtain ⟨z42, zs2, e2, hzs2⟩ := list_cons (n := 25) hzs1
      obtain ⟨z43, zs3, e3, hzs3⟩ := list_cons (n := 24) hzs2
      obtain ⟨z44, zs4, e4, hzs4⟩ := list_cons (n := 23) hzs3
      obtain ⟨z45, zs5, e5, hzs5⟩ := list_cons (n := 22) hzs4
      obtain ⟨z46, zs6, e6, hzs6⟩ := list_cons (n := 21) hzs5
      obtain ⟨z47, zs7, e7, hzs7⟩ := list_cons (n := 20) hzs6
      obtain ⟨z48, zs8, e8, hzs8⟩ := list_cons (n := 19) hzs7
      obtain ⟨z49, zs9, e9, hzs9⟩ := list_cons (n := 18) hzs8
      obtain ⟨z50, zs10, e10, hzs10⟩ := list_cons (n := 17) hzs9
      obtain ⟨z51, zs11, e11, hzs11⟩ := list_cons (n := 16) hzs10
      obtain ⟨z52, zs12, e12, hzs12⟩ := list_cons (n := 15) hzs11
      obtain ⟨z53, zs13, e13, hzs13⟩ := list_cons (n := 14) hzs12
      obtain ⟨z54, zs14, e14, hzs14⟩ := list_cons (n := 13) hzs13
      obtain ⟨z55, zs15, e15, hzs15⟩ := list_cons (n := 12) hzs14
      obtain ⟨z56, zs16, e16, hzs16⟩ := list_cons (n := 11) hzs15
      obtain ⟨z57, zs17, e17, hzs17⟩ := list_cons (n := 10) hzs16
      obtain ⟨z58, zs18, e18, hzs18⟩ := list_cons (n := 9) hzs17
      obtain ⟨z59, zs19, e19, hzs19⟩ := list_cons (n := 8) hzs18
      obtain ⟨z60, zs20, e20, hzs20⟩ := list_cons (n := 7) hzs19
      obtain ⟨z61, zs21, e21, hzs21⟩ := list_cons (n := 6) hzs20
      obtain ⟨z62, zs22, e22, hzs22⟩ := list_cons (n := 5) hzs21
      obtain ⟨z63, zs23, e23, hzs23⟩ := list_cons (n := 4) hzs22
      obtain ⟨z64, zs24, e24, hzs24⟩ := list_cons (n := 3) hzs23
      obtain ⟨z65, zs25, e25, hzs25⟩ := list_cons (n := 2) hzs24
      obtain ⟨z66, zs26, e26, hzs26⟩ := list_cons (n := 1) hzs25
      obtain ⟨z67, zs27, e27, hzs27⟩ := list_cons (n := 0) hzs26
      obtain rfl := List.eq_nil_of_length_eq_zero hzs27
      subst e27 e26 e25 e24 e23 e22 e21 e20 e19 e18 e17 e16 e15 e14 e13 e12 e11 e10 e9 e8 e7 e6 e5 e4 e3 e2 e1 e0
      subst hact
      intro hst6 hbl6 hsz6 hsm6 hfr6 hgr6
      simp only [List.take_succ_cons, List.take_zero, List.drop_succ_cons, List.drop_zero, List.cons_append, List.nil_append]
      go_wp2_with fail
      go_meet
      exact ⟨K6, v6, hst6, (hbl4.trans hbl5).trans hbl6, hsz6, hsm6, hfr6, hgr6⟩
  case rest =>
    obtain ⟨K6, v6, hst6, hbl6, hsz6, hsm6, hfr6, hgr6⟩ := hcut
    obtain ⟨gO, cO, eO6, G2⟩ := hgr6 0 (by omega)
    obtain ⟨gN, cN, eI6, G3⟩ := hgr6 1 (by omega)
    obtain ⟨_, _, _, G4⟩ := hgr6 2 (by omega)
    have A6 : ∀ n, n < 1000 → n ≠ 2 → n ≠ 3 → n ≠ 4 → K6 n = K5 n := by
      intro n h1 h2 h3 h4
      refine hfr6 n (fun j hj => ?_)
      rcases (by omega : j = 0 ∨ j = 1 ∨ j = 2) with rfl|rfl|rfl <;> (simp [ch4]; omega)
    obtain ⟨xa, e11⟩ := HR.out.r11
    have E10 : K6 10 = some ⟨125, 1, J.length + 2, v6.home, List.replicate (J.length + 2) (.pointer none)⟩ := by rw [A6 10 (by omega) (by omega) (by omega) (by omega), FF 10 (by omega) (by omega) (by omega), hsm6, hv5]; exact HR.out.r10
    have E11 : K6 11 = some ⟨21, 1, J.length + 2, v6.at', xa⟩ := by rw [A6 11 (by omega) (by omega) (by omega) (by omega), FF 11 (by omega) (by omega) (by omega), hsm6, hv5]; exact e11
    clear hfr6 hgr6
    go_upto_region 5 with fail
    go_cut [] from 68 to 85 (fun wc => ∃ K7 v7, St c K7 v7 wc ∧ Below c.base w wc ∧ c.base ≤ wc.heap.size ∧ v7 = { v6 with home := v7.home, at' := v7.at' } ∧ (∀ n, (∀ j, j < 2 → n ≠ (ch5 c.C (J.length + 2) (List.replicate (J.length + 2) (.pointer none)) xa j).r ∧ n ≠ (ch5 c.C (J.length + 2) (List.replicate (J.length + 2) (.pointer none)) xa j).T) → K7 n = K6 n) ∧ ∀ j, j < 2 → Grown (ch5 c.C (J.length + 2) (List.replicate (J.length + 2) (.pointer none)) xa j) K7 ((ch5 c.C (J.length + 2) (List.replicate (J.length + 2) (.pointer none)) xa j).get v7))
    case first =>
      refine wp_chains (by kernel_rfl) (by kernel_rfl) hst6 hsz6 2 (ch5 c.C (J.length + 2) (List.replicate (J.length + 2) (.pointer none)) xa) ?ok ?hr ?hrT ?hgo (fun v7 => v7 = { v6 with home := v7.home, at' := v7.at' }) rfl ?S ⟨fun i => ([some (.pointer (some ⟨c.C, 0, none⟩)), some (.pointer (some ⟨c.C, 0, none⟩)), some (.pointer (some ⟨c.C, 0, none⟩)), some (.pointer (some ⟨c.C, 0, none⟩)), some (.pointer (some ⟨c.C, 22, none⟩)), some (v6.home), none, none, some (.pointer (some ⟨c.C, 0, none⟩)), some (.pointer (some ⟨c.C, 0, none⟩)), some (.pointer (some ⟨c.C, 23, none⟩)), some (v6.at'), none, none, some (.pointer (some ⟨c.C, 0, none⟩)), some (.pointer (some ⟨c.C, 22, none⟩)), none, some (.pointer (some ⟨c.C, 0, none⟩)), some (.pointer (some ⟨c.C, 23, none⟩)), none] : List (Option Value)).getD i none, fun i => ([some 68, some 69, some 70, some 71, some 72, some 73, some 74, some 75, some 76, some 77, some 78, some 79, some 80, some 81, some 82, some 83, none, some 84, some 85, none] : List (Option Nat)).getD i none, fun i => ([none, none, none, none, none, some 0, none, none, none, none, none, some 1, none, none, none, none, none, none, none, none] : List (Option Nat)).getD i none, fun i => ([none, none, none, none, none, none, some 0, none, none, none, none, none, some 1, none, none, none, none, none, none, none] : List (Option Nat)).getD i none, fun i => ([none, none, none, none, none, none, none, some 0, none, none, none, none, none, some 1, none, none, none, none, none, none] : List (Option Nat)).getD i none, fun i => ([none, none, none, none, none, none, none, none, none, none, none, none, none, none, none, none, some 0, none, none, some 1] : List (Option Nat)).getD i none⟩ 68 85 ?hslot ?hinj ?hub ?hua ?hus ?hlt ?hop ?hall ?hend
      case ok =>
        intro j hj
        rcases (by omega : j = 0 ∨ j = 1) with rfl|rfl
        · exact ⟨E10, ty125, Yba.underlying36, ⟨_, _, info125, rfl, by omega⟩, by simp [ch5]; omega, rfl, fun K v w x hs => hs.setC 22 x rfl rfl rfl rfl rfl rfl rfl, fun K v w hs => ⟨hs.hC.cell? 22, hs.hC.free 22, hs.lo.1⟩, fun _ _ => rfl⟩
        · exact ⟨E11, ty21, Yba.underlying31, ⟨_, _, info21, rfl, by omega⟩, by simp [ch5]; omega, rfl, fun K v w x hs => hs.setC 23 x rfl rfl rfl rfl rfl rfl rfl, fun K v w hs => ⟨hs.hC.cell? 23, hs.hC.free 23, hs.lo.1⟩, fun _ _ => rfl⟩
      case hr => intro i j hi hj hij; rcases (by omega : i = 0 ∨ i = 1) with rfl|rfl <;> rcases (by omega : j = 0 ∨ j = 1) with rfl|rfl <;> first | exact absurd rfl hij | simp [ch5]
      case hrT => intro i j hi hj; rcases (by omega : i = 0 ∨ i = 1) with rfl|rfl <;> rcases (by omega : j = 0 ∨ j = 1) with rfl|rfl <;> simp [ch5]
      case hgo => intro i j hi hj hij v x; rcases (by omega : i = 0 ∨ i = 1) with rfl|rfl <;> rcases (by omega : j = 0 ∨ j = 1) with rfl|rfl <;> first | exact absurd rfl hij | rfl
      case S => intro j v1 x hj hs; rcases (by omega : j = 0 ∨ j = 1) with rfl|rfl <;> (rw [hs]; rfl)
      case hslot => intro i s hi; have := allL (p := fun s => decide (68 ≤ s ∧ s ≤ 85)) (by decide) hi; simp at this; exact ⟨this.1, this.2, by simp; omega⟩
      case hinj => intro i j _ _ hij s h1 h2; exact hij (uniqL (by decide) h1 h2)
      case hub => intro i i2 j h1 h2; exact uniqL (by decide) h1 h2
      case hua => intro i i2 j h1 h2; exact uniqL (by decide) h1 h2
      case hus => intro i i2 j h1 h2; exact uniqL (by decide) h1 h2
      case hlt => rintro i j (h1 | h1 | h1 | h1) <;> exact of_decide_eq_true (allL (p := fun s => decide (s < 2)) (by decide) h1)
      case hall =>
        intro j hj
        rcases (by omega : j = 0 ∨ j = 1) with rfl|rfl
        · exact ⟨16, by decide, rfl⟩
        · exact ⟨19, by decide, rfl⟩
      case hop =>
        intro i o ho
        match i, ho with
        | 0, ho => simp at ho; subst ho; exact ⟨rfl, rfl, .inl ⟨_, rfl, rfl, rfl, rfl, rfl, fun a w hF hP => exec_move rfl (eval_at ((hF.2.2 0 (.inl (by decide))).trans rfl))⟩⟩
        | 1, ho => simp at ho; subst ho; exact ⟨rfl, rfl, .inl ⟨_, rfl, rfl, rfl, rfl, rfl, fun a w hF hP => exec_move rfl (eval_at ((hF.2.2 0 (.inl (by decide))).trans rfl))⟩⟩
        | 2, ho => simp at ho; subst ho; exact ⟨rfl, rfl, .inl ⟨_, rfl, rfl, rfl, rfl, rfl, fun a w hF hP => exec_move rfl (eval_at ((hF.2.2 0 (.inl (by decide))).trans rfl))⟩⟩
        | 3, ho => simp at ho; subst ho; exact ⟨rfl, rfl, .inl ⟨_, rfl, rfl, rfl, rfl, rfl, fun a w hF hP => exec_nil rfl (eval_at (hP ⟨2, .data⟩ (by simp) rfl _ _ rfl rfl))⟩⟩
        | 4, ho => simp at ho; subst ho; exact ⟨rfl, rfl, .inl ⟨_, rfl, rfl, rfl, rfl, rfl, fun a w hF hP => by have hx := hP ⟨3, .data⟩ (by simp) rfl _ _ rfl rfl; simp [execOp, hx, go_sem]⟩⟩
        | 5, ho => simp at ho; subst ho; exact ⟨rfl, rfl, .inr (.inl ⟨0, by decide, rfl, rfl, rfl, rfl, rfl, fun a w hF hP hc => by have hx := hP ⟨4, .data⟩ (by simp) rfl _ _ rfl rfl; simp only [ch5] at hc ⊢; simp [execOp, hx, hc, go_sem]⟩)⟩
        | 6, ho => simp at ho; subst ho; exact ⟨rfl, rfl, .inr (.inr (.inl ⟨0, by decide, rfl, rfl, rfl, rfl, rfl, fun a w hF hP => by simp [execOp, go_sem, ch5]⟩))⟩
        | 7, ho => simp at ho; subst ho; exact ⟨rfl, rfl, .inr (.inr (.inr (.inl ⟨0, by decide, rfl, rfl, rfl, rfl, rfl, ⟨5, .data⟩, ⟨6, .data⟩, 73, 74, by simp, rfl, rfl, rfl, rfl, by simp, rfl, rfl, rfl, rfl⟩)))⟩
        | 8, ho => simp at ho; subst ho; exact ⟨rfl, rfl, .inl ⟨_, rfl, rfl, rfl, rfl, rfl, fun a w hF hP => exec_move rfl (eval_at ((hF.2.2 0 (.inl (by decide))).trans rfl))⟩⟩
        | 9, ho => simp at ho; subst ho; exact ⟨rfl, rfl, .inl ⟨_, rfl, rfl, rfl, rfl, rfl, fun a w hF hP => exec_nil rfl (eval_at (hP ⟨8, .data⟩ (by simp) rfl _ _ rfl rfl))⟩⟩
        | 10, ho => simp at ho; subst ho; exact ⟨rfl, rfl, .inl ⟨_, rfl, rfl, rfl, rfl, rfl, fun a w hF hP => by have hx := hP ⟨9, .data⟩ (by simp) rfl _ _ rfl rfl; simp [execOp, hx, go_sem]⟩⟩
        | 11, ho => simp at ho; subst ho; exact ⟨rfl, rfl, .inr (.inl ⟨1, by decide, rfl, rfl, rfl, rfl, rfl, fun a w hF hP hc => by have hx := hP ⟨10, .data⟩ (by simp) rfl _ _ rfl rfl; simp only [ch5] at hc ⊢; simp [execOp, hx, hc, go_sem]⟩)⟩
        | 12, ho => simp at ho; subst ho; exact ⟨rfl, rfl, .inr (.inr (.inl ⟨1, by decide, rfl, rfl, rfl, rfl, rfl, fun a w hF hP => by simp [execOp, go_sem, ch5]⟩))⟩
        | 13, ho => simp at ho; subst ho; exact ⟨rfl, rfl, .inr (.inr (.inr (.inl ⟨1, by decide, rfl, rfl, rfl, rfl, rfl, ⟨11, .data⟩, ⟨12, .data⟩, 79, 80, by simp, rfl, rfl, rfl, rfl, by simp, rfl, rfl, rfl, rfl⟩)))⟩
        | 14, ho => simp at ho; subst ho; exact ⟨rfl, rfl, .inl ⟨_, rfl, rfl, rfl, rfl, rfl, fun a w hF hP => exec_nil rfl (eval_at (hP ⟨0, .data⟩ (by simp) rfl _ _ rfl rfl))⟩⟩
        | 15, ho => simp at ho; subst ho; exact ⟨rfl, rfl, .inl ⟨_, rfl, rfl, rfl, rfl, rfl, fun a w hF hP => by have hx := hP ⟨14, .data⟩ (by simp) rfl _ _ rfl rfl; simp [execOp, hx, go_sem]⟩⟩
        | 16, ho => simp at ho; subst ho; exact ⟨rfl, rfl, .inr (.inr (.inr (.inr ⟨0, by decide, rfl, rfl, rfl, rfl, rfl, rfl, fun q hq => ⟨⟨5, .phase⟩, by simp, rfl, (getD_only hq (by decide) (by decide)).symm⟩, ⟨7, .data⟩, 75, by simp, rfl, rfl, rfl, fun a w p q r y hF hP hx hc hf => by have hp := hP ⟨15, .data⟩ (by simp) rfl _ _ rfl rfl; simp only [ch5] at hc hf ⊢; simp [execOp, hp, hx, hc, hf, go_sem]⟩)))⟩
        | 17, ho => simp at ho; subst ho; exact ⟨rfl, rfl, .inl ⟨_, rfl, rfl, rfl, rfl, rfl, fun a w hF hP => exec_nil rfl (eval_at (hP ⟨1, .data⟩ (by simp) rfl _ _ rfl rfl))⟩⟩
        | 18, ho => simp at ho; subst ho; exact ⟨rfl, rfl, .inl ⟨_, rfl, rfl, rfl, rfl, rfl, fun a w hF hP => by have hx := hP ⟨17, .data⟩ (by simp) rfl _ _ rfl rfl; simp [execOp, hx, go_sem]⟩⟩
        | 19, ho => simp at ho; subst ho; exact ⟨rfl, rfl, .inr (.inr (.inr (.inr ⟨1, by decide, rfl, rfl, rfl, rfl, rfl, rfl, fun q hq => ⟨⟨11, .phase⟩, by simp, rfl, (getD_only hq (by decide) (by decide)).symm⟩, ⟨13, .data⟩, 81, by simp, rfl, rfl, rfl, fun a w p q r y hF hP hx hc hf => by have hp := hP ⟨18, .data⟩ (by simp) rfl _ _ rfl rfl; simp only [ch5] at hc hf ⊢; simp [execOp, hp, hx, hc, hf, go_sem]⟩)))⟩
        | i + 20, ho => simp at ho
      case hend =>
        intro a w7 K7 v7 hF
        obtain ⟨zs, hzs, hact⟩ := hF.form (by simp) (by decide)
        replace hzs : zs.length = 18 := by simpa using hzs
        obtain ⟨z68, zs0, e0, hzs0⟩ := list_cons (n := 17) hzs
        obtain ⟨z69, zs1, e1, hzs1⟩ := list_cons (n := 16) hzs0
        obtain ⟨z70, zs2, e2, hzs2⟩ := list_cons (n := 15) hzs1
        obtain ⟨z71, zs3, e3, hzs3⟩ := list_cons (n := 14) hzs2
        obtain ⟨z72, zs4, e4, hzs4⟩ := list_cons (n := 13) hzs3
        obtain ⟨z73, zs5, e5, hzs5⟩ := list_cons (n := 12) hzs4
        obtain ⟨z74, zs6, e6, hzs6⟩ := list_cons (n := 11) hzs5
        obtain ⟨z75, zs7, e7, hzs7⟩ := list_cons (n := 10) hzs6
        obtain ⟨z76, zs8, e8, hzs8⟩ := list_cons (n := 9) hzs7
        obtain ⟨z77, zs9, e9, hzs9⟩ := list_cons (n := 8) hzs8
        obtain ⟨z78, zs10, e10, hzs10⟩ := list_cons (n := 7) hzs9
        obtain ⟨z79, zs11, e11, hzs11⟩ := list_cons (n := 6) hzs10
        obtain ⟨z80, zs12, e12, hzs12⟩ := list_cons (n := 5) hzs11
        obtain ⟨z81, zs13, e13, hzs13⟩ := list_cons (n := 4) hzs12
        obtain ⟨z82, zs14, e14, hzs14⟩ := list_cons (n := 3) hzs13
        obtain ⟨z83, zs15, e15, hzs15⟩ := list_cons (n := 2) hzs14
        obtain ⟨z84, zs16, e16, hzs16⟩ := list_cons (n := 1) hzs15
        obtain ⟨z85, zs17, e17, hzs17⟩ := list_cons (n := 0) hzs16
        obtain rfl := List.eq_nil_of_length_eq_zero hzs17
        subst e17 e16 e15 e14 e13 e12 e11 e10 e9 e8 e7 e6 e5 e4 e3 e2 e1 e0
        subst hact
        intro hst7 hbl7 hsz7 hsm7 hfr7 hgr7
        simp only [List.take_succ_cons, List.take_zero, List.drop_succ_cons, List.drop_zero, List.cons_append, List.nil_append]
        go_wp2_with fail
        go_meet
        exact ⟨K7, v7, hst7, hbl6.trans hbl7, hsz7, hsm7, hfr7, hgr7⟩
    case rest =>
      obtain ⟨K7, v7, hst7, hbl7, hsz7, hsm7, hfr7, hgr7⟩ := hcut
      obtain ⟨_, _, _, G10⟩ := hgr7 0 (by omega)
      obtain ⟨_, _, _, G11⟩ := hgr7 1 (by omega)
      have A7 : ∀ n, n < 1000 → n ≠ 10 → n ≠ 11 → K7 n = K6 n := by
        intro n h1 h2 h3
        refine hfr7 n (fun j hj => ?_)
        rcases (by omega : j = 0 ∨ j = 1) with rfl|rfl <;> (simp [ch5]; omega)
      obtain ⟨f6, e6, b6⟩ := HR.out.r6
      have E5 : K7 5 = some ⟨4, 1, J.length + 2, v7.reached, .bool false :: List.replicate (J.length + 1) (.bool true)⟩ := by rw [A7 5 (by omega) (by omega) (by omega), A6 5 (by omega) (by omega) (by omega) (by omega), FF 5 (by omega) (by omega) (by omega), hsm7, hsm6, hv5]; exact HR.out.r5
      have E6 : K7 6 = some ⟨3, 1, J.length + 2, v7.frm, rowOf f6 (J.length + 2)⟩ := by rw [A7 6 (by omega) (by omega) (by omega), A6 6 (by omega) (by omega) (by omega) (by omega), FF 6 (by omega) (by omega) (by omega), hsm7, hsm6, hv5]; exact e6
      clear hfr7 hgr7
      have c15 : wc.cell? ⟨c.C, 15, none⟩ = some (.pointer (some ⟨c.BT, 0, none⟩)) := hst7.hC.cell? 15
      have c18 : wc.cell? ⟨c.C, 18, none⟩ = some (.pointer (some ⟨c.TT, 0, none⟩)) := hst7.hC.cell? 18
      have HB6 : Hid (∀ p, 0 ≤ f6 p ∧ f6 p ≤ (B : Int)) := b6
      clear b6
      go_upto_region 6 with fail
      go_quiet (fail)
      go_upto_region 7 with fail
      have hst7q := hst7.drewN nq
      go_cut [] from 94 to 111 (fun wc => ∃ K8 v8, St c K8 v8 wc ∧ Below c.base w wc ∧ c.base ≤ wc.heap.size ∧ v8 = { v7 with reached := v8.reached, frm := v8.frm } ∧ (∀ n, (∀ j, j < 2 → n ≠ (ch7 c.BT (J.length + 2) (.bool false :: List.replicate (J.length + 1) (.bool true)) (rowOf f6 (J.length + 2)) j).r ∧ n ≠ (ch7 c.BT (J.length + 2) (.bool false :: List.replicate (J.length + 1) (.bool true)) (rowOf f6 (J.length + 2)) j).T) → K8 n = K7 n) ∧ ∀ j, j < 2 → Grown (ch7 c.BT (J.length + 2) (.bool false :: List.replicate (J.length + 1) (.bool true)) (rowOf f6 (J.length + 2)) j) K8 ((ch7 c.BT (J.length + 2) (.bool false :: List.replicate (J.length + 1) (.bool true)) (rowOf f6 (J.length + 2)) j).get v8))
      case first =>
        refine wp_chains (by kernel_rfl) (by kernel_rfl) hst7q hsz7 2 (ch7 c.BT (J.length + 2) (.bool false :: List.replicate (J.length + 1) (.bool true)) (rowOf f6 (J.length + 2))) ?ok ?hr ?hrT ?hgo (fun v8 => v8 = { v7 with reached := v8.reached, frm := v8.frm }) rfl ?S ⟨fun i => ([some (.pointer (some ⟨c.BT, 0, none⟩)), some (.pointer (some ⟨c.BT, 0, none⟩)), some (.pointer (some ⟨c.BT, 0, none⟩)), some (.pointer (some ⟨c.BT, 0, none⟩)), some (.pointer (some ⟨c.BT, 0, none⟩)), some (v7.reached), none, none, some (.pointer (some ⟨c.BT, 0, none⟩)), some (.pointer (some ⟨c.BT, 0, none⟩)), some (.pointer (some ⟨c.BT, 1, none⟩)), some (v7.frm), none, none, some (.pointer (some ⟨c.BT, 0, none⟩)), some (.pointer (some ⟨c.BT, 0, none⟩)), none, some (.pointer (some ⟨c.BT, 0, none⟩)), some (.pointer (some ⟨c.BT, 1, none⟩)), none] : List (Option Value)).getD i none, fun i => ([some 94, some 95, some 96, some 97, some 98, some 99, some 100, some 101, some 102, some 103, some 104, some 105, some 106, some 107, some 108, some 109, none, some 110, some 111, none] : List (Option Nat)).getD i none, fun i => ([none, none, none, none, none, some 0, none, none, none, none, none, some 1, none, none, none, none, none, none, none, none] : List (Option Nat)).getD i none, fun i => ([none, none, none, none, none, none, some 0, none, none, none, none, none, some 1, none, none, none, none, none, none, none] : List (Option Nat)).getD i none, fun i => ([none, none, none, none, none, none, none, some 0, none, none, none, none, none, some 1, none, none, none, none, none, none] : List (Option Nat)).getD i none, fun i => ([none, none, none, none, none, none, none, none, none, none, none, none, none, none, none, none, some 0, none, none, some 1] : List (Option Nat)).getD i none⟩ 94 111 ?hslot ?hinj ?hub ?hua ?hus ?hlt ?hop ?hall ?hend
        case ok =>
          intro j hj
          rcases (by omega : j = 0 ∨ j = 1) with rfl|rfl
          · exact ⟨E5, ty4, Yba.underlying33, ⟨_, _, info4, rfl, by omega⟩, by simp [ch7]; omega, rfl, fun K v w x hs => hs.setB 0 x rfl rfl rfl rfl rfl rfl, fun K v w hs => ⟨hs.hBT.cell? 0, hs.hBT.free 0, hs.lo.2.1⟩, fun _ _ => rfl⟩
          · exact ⟨E6, ty3, Yba.underlying26, ⟨_, _, info3, rfl, by omega⟩, by simp [ch7]; omega, rfl, fun K v w x hs => hs.setB 1 x rfl rfl rfl rfl rfl rfl, fun K v w hs => ⟨hs.hBT.cell? 1, hs.hBT.free 1, hs.lo.2.1⟩, fun _ _ => rfl⟩
        case hr => intro i j hi hj hij; rcases (by omega : i = 0 ∨ i = 1) with rfl|rfl <;> rcases (by omega : j = 0 ∨ j = 1) with rfl|rfl <;> first | exact absurd rfl hij | simp [ch7]
        case hrT => intro i j hi hj; rcases (by omega : i = 0 ∨ i = 1) with rfl|rfl <;> rcases (by omega : j = 0 ∨ j = 1) with rfl|rfl <;> simp [ch7]
        case hgo => intro i j hi hj hij v x; rcases (by omega : i = 0 ∨ i = 1) with rfl|rfl <;> rcases (by omega : j = 0 ∨ j = 1) with rfl|rfl <;> first | exact absurd rfl hij | rfl
        case S => intro j v1 x hj hs; rcases (by omega : j = 0 ∨ j = 1) with rfl|rfl <;> (rw [hs]; rfl)
        case hslot => intro i s hi; have := allL (p := fun s => decide (94 ≤ s ∧ s ≤ 111)) (by decide) hi; simp at this; exact ⟨this.1, this.2, by simp; omega⟩
        case hinj => intro i j _ _ hij s h1 h2; exact hij (uniqL (by decide) h1 h2)
        case hub => intro i i2 j h1 h2; exact uniqL (by decide) h1 h2
        case hua => intro i i2 j h1 h2; exact uniqL (by decide) h1 h2
        case hus => intro i i2 j h1 h2; exact uniqL (by decide) h1 h2
        case hlt => rintro i j (h1 | h1 | h1 | h1) <;> exact of_decide_eq_true (allL (p := fun s => decide (s < 2)) (by decide) h1)
        case hall =>
          intro j hj
          rcases (by omega : j = 0 ∨ j = 1) with rfl|rfl
          · exact ⟨16, by decide, rfl⟩
          · exact ⟨19, by decide, rfl⟩
        case hop =>
          intro i o ho
          match i, ho with
          | 0, ho => simp at ho; subst ho; exact ⟨rfl, rfl, .inl ⟨_, rfl, rfl, rfl, rfl, rfl, fun a w hF hP => exec_move rfl (eval_at ((hF.2.2 8 (.inl (by decide))).trans rfl))⟩⟩
          | 1, ho => simp at ho; subst ho; exact ⟨rfl, rfl, .inl ⟨_, rfl, rfl, rfl, rfl, rfl, fun a w hF hP => exec_move rfl (eval_at ((hF.2.2 8 (.inl (by decide))).trans rfl))⟩⟩
          | 2, ho => simp at ho; subst ho; exact ⟨rfl, rfl, .inl ⟨_, rfl, rfl, rfl, rfl, rfl, fun a w hF hP => exec_move rfl (eval_at ((hF.2.2 8 (.inl (by decide))).trans rfl))⟩⟩
          | 3, ho => simp at ho; subst ho; exact ⟨rfl, rfl, .inl ⟨_, rfl, rfl, rfl, rfl, rfl, fun a w hF hP => exec_nil rfl (eval_at (hP ⟨2, .data⟩ (by simp) rfl _ _ rfl rfl))⟩⟩
          | 4, ho => simp at ho; subst ho; exact ⟨rfl, rfl, .inl ⟨_, rfl, rfl, rfl, rfl, rfl, fun a w hF hP => by have hx := hP ⟨3, .data⟩ (by simp) rfl _ _ rfl rfl; simp [execOp, hx, go_sem]⟩⟩
          | 5, ho => simp at ho; subst ho; exact ⟨rfl, rfl, .inr (.inl ⟨0, by decide, rfl, rfl, rfl, rfl, rfl, fun a w hF hP hc => by have hx := hP ⟨4, .data⟩ (by simp) rfl _ _ rfl rfl; simp only [ch7] at hc ⊢; simp [execOp, hx, hc, go_sem]⟩)⟩
          | 6, ho => simp at ho; subst ho; exact ⟨rfl, rfl, .inr (.inr (.inl ⟨0, by decide, rfl, rfl, rfl, rfl, rfl, fun a w hF hP => by simp [execOp, go_sem, ch7]⟩))⟩
          | 7, ho => simp at ho; subst ho; exact ⟨rfl, rfl, .inr (.inr (.inr (.inl ⟨0, by decide, rfl, rfl, rfl, rfl, rfl, ⟨5, .data⟩, ⟨6, .data⟩, 99, 100, by simp, rfl, rfl, rfl, rfl, by simp, rfl, rfl, rfl, rfl⟩)))⟩
          | 8, ho => simp at ho; subst ho; exact ⟨rfl, rfl, .inl ⟨_, rfl, rfl, rfl, rfl, rfl, fun a w hF hP => exec_move rfl (eval_at ((hF.2.2 8 (.inl (by decide))).trans rfl))⟩⟩
          | 9, ho => simp at ho; subst ho; exact ⟨rfl, rfl, .inl ⟨_, rfl, rfl, rfl, rfl, rfl, fun a w hF hP => exec_nil rfl (eval_at (hP ⟨8, .data⟩ (by simp) rfl _ _ rfl rfl))⟩⟩
          | 10, ho => simp at ho; subst ho; exact ⟨rfl, rfl, .inl ⟨_, rfl, rfl, rfl, rfl, rfl, fun a w hF hP => by have hx := hP ⟨9, .data⟩ (by simp) rfl _ _ rfl rfl; simp [execOp, hx, go_sem]⟩⟩
          | 11, ho => simp at ho; subst ho; exact ⟨rfl, rfl, .inr (.inl ⟨1, by decide, rfl, rfl, rfl, rfl, rfl, fun a w hF hP hc => by have hx := hP ⟨10, .data⟩ (by simp) rfl _ _ rfl rfl; simp only [ch7] at hc ⊢; simp [execOp, hx, hc, go_sem]⟩)⟩
          | 12, ho => simp at ho; subst ho; exact ⟨rfl, rfl, .inr (.inr (.inl ⟨1, by decide, rfl, rfl, rfl, rfl, rfl, fun a w hF hP => by simp [execOp, go_sem, ch7]⟩))⟩
          | 13, ho => simp at ho; subst ho; exact ⟨rfl, rfl, .inr (.inr (.inr (.inl ⟨1, by decide, rfl, rfl, rfl, rfl, rfl, ⟨11, .data⟩, ⟨12, .data⟩, 105, 106, by simp, rfl, rfl, rfl, rfl, by simp, rfl, rfl, rfl, rfl⟩)))⟩
          | 14, ho => simp at ho; subst ho; exact ⟨rfl, rfl, .inl ⟨_, rfl, rfl, rfl, rfl, rfl, fun a w hF hP => exec_nil rfl (eval_at (hP ⟨0, .data⟩ (by simp) rfl _ _ rfl rfl))⟩⟩
          | 15, ho => simp at ho; subst ho; exact ⟨rfl, rfl, .inl ⟨_, rfl, rfl, rfl, rfl, rfl, fun a w hF hP => by have hx := hP ⟨14, .data⟩ (by simp) rfl _ _ rfl rfl; simp [execOp, hx, go_sem]⟩⟩
          | 16, ho => simp at ho; subst ho; exact ⟨rfl, rfl, .inr (.inr (.inr (.inr ⟨0, by decide, rfl, rfl, rfl, rfl, rfl, rfl, fun q hq => ⟨⟨5, .phase⟩, by simp, rfl, (getD_only hq (by decide) (by decide)).symm⟩, ⟨7, .data⟩, 101, by simp, rfl, rfl, rfl, fun a w p q r y hF hP hx hc hf => by have hp := hP ⟨15, .data⟩ (by simp) rfl _ _ rfl rfl; simp only [ch7] at hc hf ⊢; simp [execOp, hp, hx, hc, hf, go_sem]⟩)))⟩
          | 17, ho => simp at ho; subst ho; exact ⟨rfl, rfl, .inl ⟨_, rfl, rfl, rfl, rfl, rfl, fun a w hF hP => exec_nil rfl (eval_at (hP ⟨1, .data⟩ (by simp) rfl _ _ rfl rfl))⟩⟩
          | 18, ho => simp at ho; subst ho; exact ⟨rfl, rfl, .inl ⟨_, rfl, rfl, rfl, rfl, rfl, fun a w hF hP => by have hx := hP ⟨17, .data⟩ (by simp) rfl _ _ rfl rfl; simp [execOp, hx, go_sem]⟩⟩
          | 19, ho => simp at ho; subst ho; exact ⟨rfl, rfl, .inr (.inr (.inr (.inr ⟨1, by decide, rfl, rfl, rfl, rfl, rfl, rfl, fun q hq => ⟨⟨11, .phase⟩, by simp, rfl, (getD_only hq (by decide) (by decide)).symm⟩, ⟨13, .data⟩, 107, by simp, rfl, rfl, rfl, fun a w p q r y hF hP hx hc hf => by have hp := hP ⟨18, .data⟩ (by simp) rfl _ _ rfl rfl; simp only [ch7] at hc hf ⊢; simp [execOp, hp, hx, hc, hf, go_sem]⟩)))⟩
          | i + 20, ho => simp at ho
        case hend =>
          intro a w8 K8 v8 hF
          obtain ⟨zs, hzs, hact⟩ := hF.form (by simp) (by decide)
          replace hzs : zs.length = 18 := by simpa using hzs
          obtain ⟨z94, zs0, e0, hzs0⟩ := list_cons (n := 17) hzs
          obtain ⟨z95, zs1, e1, hzs1⟩ := list_cons (n := 16) hzs0
          obtain ⟨z96, zs2, e2, hzs2⟩ := list_cons (n := 15) hzs1
          obtain ⟨z97, zs3, e3, hzs3⟩ := list_cons (n := 14) hzs2
          obtain ⟨z98, zs4, e4, hzs4⟩ := list_cons (n := 13) hzs3
          obtain ⟨z99, zs5, e5, hzs5⟩ := list_cons (n := 12) hzs4
          obtain ⟨z100, zs6, e6, hzs6⟩ := list_cons (n := 11) hzs5
          obtain ⟨z101, zs7, e7, hzs7⟩ := list_cons (n := 10) hzs6
          obtain ⟨z102, zs8, e8, hzs8⟩ := list_cons (n := 9) hzs7
          obtain ⟨z103, zs9, e9, hzs9⟩ := list_cons (n := 8) hzs8
          obtain ⟨z104, zs10, e10, hzs10⟩ := list_cons (n := 7) hzs9
          obtain ⟨z105, zs11, e11, hzs11⟩ := list_cons (n := 6) hzs10
          obtain ⟨z106, zs12, e12, hzs12⟩ := list_cons (n := 5) hzs11
          obtain ⟨z107, zs13, e13, hzs13⟩ := list_cons (n := 4) hzs12
          obtain ⟨z108, zs14, e14, hzs14⟩ := list_cons (n := 3) hzs13
          obtain ⟨z109, zs15, e15, hzs15⟩ := list_cons (n := 2) hzs14
          obtain ⟨z110, zs16, e16, hzs16⟩ := list_cons (n := 1) hzs15
          obtain ⟨z111, zs17, e17, hzs17⟩ := list_cons (n := 0) hzs16
          obtain rfl := List.eq_nil_of_length_eq_zero hzs17
          subst e17 e16 e15 e14 e13 e12 e11 e10 e9 e8 e7 e6 e5 e4 e3 e2 e1 e0
          subst hact
          intro hst8 hbl8 hsz8 hsm8 hfr8 hgr8
          simp only [List.take_succ_cons, List.take_zero, List.drop_succ_cons, List.drop_zero, List.cons_append, List.nil_append]
          go_wp2_with fail
          go_meet
          exact ⟨K8, v8, hst8, (below_drewN hbl7 nq).trans hbl8, hsz8, hsm8, hfr8, hgr8⟩
      case rest =>
        obtain ⟨K8, v8, hst8, hbl8, hsz8, hsm8, hfr8, hgr8⟩ := hcut
        obtain ⟨gR, cR, eR8, G5⟩ := hgr8 0 (by omega)
        obtain ⟨gF, cF, eF8, G6⟩ := hgr8 1 (by omega)
        have A8 : ∀ n, n < 1000 → n ≠ 5 → n ≠ 6 → K8 n = K7 n := by
          intro n h1 h2 h3
          refine hfr8 n (fun j hj => ?_)
          rcases (by omega : j = 0 ∨ j = 1) with rfl|rfl <;> (simp [ch7]; omega)
        obtain ⟨f8, e8, b8⟩ := HR.out.r8
        obtain ⟨xm, e9⟩ := HR.out.r9
        have E7 : K8 7 = some ⟨3, 1, J.length + 2, v8.len, rowOf L (J.length + 2)⟩ := by rw [A8 7 (by omega) (by omega) (by omega), A7 7 (by omega) (by omega) (by omega), A6 7 (by omega) (by omega) (by omega) (by omega), FF 7 (by omega) (by omega) (by omega), hsm8, hsm7, hsm6, hv5]; exact HR.out.r7
        have E8 : K8 8 = some ⟨3, 1, J.length + 2, v8.nxt, rowOf f8 (J.length + 2)⟩ := by rw [A8 8 (by omega) (by omega) (by omega), A7 8 (by omega) (by omega) (by omega), A6 8 (by omega) (by omega) (by omega) (by omega), FF 8 (by omega) (by omega) (by omega), hsm8, hsm7, hsm6, hv5]; exact e8
        have E9 : K8 9 = some ⟨3, 1, J.length + 1, v8.met, xm⟩ := by rw [A8 9 (by omega) (by omega) (by omega), A7 9 (by omega) (by omega) (by omega), A6 9 (by omega) (by omega) (by omega) (by omega), FF 9 (by omega) (by omega) (by omega), hsm8, hsm7, hsm6, hv5]; exact e9
        clear hfr8 hgr8
        have HB8 : Hid (∀ p, -1 ≤ f8 p ∧ f8 p ≤ (B : Int)) := b8
        clear b8
        go_upto_region 8 with fail
        go_cut [] from 112 to 139 (fun wc => ∃ K9 v9, St c K9 v9 wc ∧ Below c.base w wc ∧ c.base ≤ wc.heap.size ∧ v9 = { v8 with len := v9.len, nxt := v9.nxt, met := v9.met } ∧ (∀ n, (∀ j, j < 3 → n ≠ (ch8 c.TT (J.length + 2) (J.length + 1) (rowOf L (J.length + 2)) (rowOf f8 (J.length + 2)) xm ((J.length : Int) + 2) j).r ∧ n ≠ (ch8 c.TT (J.length + 2) (J.length + 1) (rowOf L (J.length + 2)) (rowOf f8 (J.length + 2)) xm ((J.length : Int) + 2) j).T) → K9 n = K8 n) ∧ ∀ j, j < 3 → Grown (ch8 c.TT (J.length + 2) (J.length + 1) (rowOf L (J.length + 2)) (rowOf f8 (J.length + 2)) xm ((J.length : Int) + 2) j) K9 ((ch8 c.TT (J.length + 2) (J.length + 1) (rowOf L (J.length + 2)) (rowOf f8 (J.length + 2)) xm ((J.length : Int) + 2) j).get v9))
        case first =>
          refine wp_chains (by kernel_rfl) (by kernel_rfl) hst8 hsz8 3 (ch8 c.TT (J.length + 2) (J.length + 1) (rowOf L (J.length + 2)) (rowOf f8 (J.length + 2)) xm ((J.length : Int) + 2)) ?ok ?hr ?hrT ?hgo (fun v9 => v9 = { v8 with len := v9.len, nxt := v9.nxt, met := v9.met }) rfl ?S ⟨fun i => ([some (.pointer (some ⟨c.TT, 0, none⟩)), some (.pointer (some ⟨c.TT, 0, none⟩)), some (.pointer (some ⟨c.TT, 0, none⟩)), some (.pointer (some ⟨c.TT, 0, none⟩)), some (.pointer (some ⟨c.TT, 0, none⟩)), some (.pointer (some ⟨c.TT, 2, none⟩)), some (v8.len), none, none, some (.pointer (some ⟨c.TT, 0, none⟩)), some (.pointer (some ⟨c.TT, 0, none⟩)), some (.pointer (some ⟨c.TT, 3, none⟩)), some (v8.nxt), none, none, some (.pointer (some ⟨c.TT, 0, none⟩)), some (.pointer (some ⟨c.TT, 0, none⟩)), some (.pointer (some ⟨c.TT, 4, none⟩)), some (v8.met), some (.int .i64 ((J.length : Int) + 2)), none, none, some (.pointer (some ⟨c.TT, 0, none⟩)), some (.pointer (some ⟨c.TT, 2, none⟩)), none, some (.pointer (some ⟨c.TT, 0, none⟩)), some (.pointer (some ⟨c.TT, 3, none⟩)), none, some (.pointer (some ⟨c.TT, 0, none⟩)), some (.pointer (some ⟨c.TT, 4, none⟩)), none] : List (Option Value)).getD i none, fun i => ([some 112, some 113, some 114, some 115, some 116, some 117, some 118, some 119, some 120, some 121, some 122, some 123, some 124, some 125, some 126, some 127, some 128, some 129, some 130, some 131, some 132, some 133, some 134, some 135, none, some 136, some 137, none, some 138, some 139, none] : List (Option Nat)).getD i none, fun i => ([none, none, none, none, none, none, some 0, none, none, none, none, none, some 1, none, none, none, none, none, some 2, none, none, none, none, none, none, none, none, none, none, none, none] : List (Option Nat)).getD i none, fun i => ([none, none, none, none, none, none, none, some 0, none, none, none, none, none, some 1, none, none, none, none, none, none, some 2, none, none, none, none, none, none, none, none, none, none] : List (Option Nat)).getD i none, fun i => ([none, none, none, none, none, none, none, none, some 0, none, none, none, none, none, some 1, none, none, none, none, none, none, some 2, none, none, none, none, none, none, none, none, none] : List (Option Nat)).getD i none, fun i => ([none, none, none, none, none, none, none, none, none, none, none, none, none, none, none, none, none, none, none, none, none, none, none, none, some 0, none, none, some 1, none, none, some 2] : List (Option Nat)).getD i none⟩ 112 139 ?hslot ?hinj ?hub ?hua ?hus ?hlt ?hop ?hall ?hend
          case ok =>
            intro j hj
            rcases (by omega : j = 0 ∨ j = 1 ∨ j = 2) with rfl|rfl|rfl
            · exact ⟨E7, ty3, Yba.underlying26, ⟨_, _, info3, rfl, by omega⟩, by simp [ch8]; omega, rfl, fun K v w x hs => hs.setT 2 x rfl rfl rfl rfl, fun K v w hs => ⟨hs.hTT.cell? 2, hs.hTT.free 2, hs.lo.2.2⟩, fun _ _ => rfl⟩
            · exact ⟨E8, ty3, Yba.underlying26, ⟨_, _, info3, rfl, by omega⟩, by simp [ch8]; omega, rfl, fun K v w x hs => hs.setT 3 x rfl rfl rfl rfl, fun K v w hs => ⟨hs.hTT.cell? 3, hs.hTT.free 3, hs.lo.2.2⟩, fun _ _ => rfl⟩
            · exact ⟨E9, ty3, Yba.underlying26, ⟨_, _, info3, rfl, by omega⟩, by simp [ch8]; omega, rfl, fun K v w x hs => hs.setT 4 x rfl rfl rfl rfl, fun K v w hs => ⟨hs.hTT.cell? 4, hs.hTT.free 4, hs.lo.2.2⟩, fun _ _ => rfl⟩
          case hr => intro i j hi hj hij; rcases (by omega : i = 0 ∨ i = 1 ∨ i = 2) with rfl|rfl|rfl <;> rcases (by omega : j = 0 ∨ j = 1 ∨ j = 2) with rfl|rfl|rfl <;> first | exact absurd rfl hij | simp [ch8]
          case hrT => intro i j hi hj; rcases (by omega : i = 0 ∨ i = 1 ∨ i = 2) with rfl|rfl|rfl <;> rcases (by omega : j = 0 ∨ j = 1 ∨ j = 2) with rfl|rfl|rfl <;> simp [ch8]
          case hgo => intro i j hi hj hij v x; rcases (by omega : i = 0 ∨ i = 1 ∨ i = 2) with rfl|rfl|rfl <;> rcases (by omega : j = 0 ∨ j = 1 ∨ j = 2) with rfl|rfl|rfl <;> first | exact absurd rfl hij | rfl
          case S => intro j v1 x hj hs; rcases (by omega : j = 0 ∨ j = 1 ∨ j = 2) with rfl|rfl|rfl <;> (rw [hs]; rfl)
          case hslot => intro i s hi; have := allL (p := fun s => decide (112 ≤ s ∧ s ≤ 139)) (by decide) hi; simp at this; exact ⟨this.1, this.2, by simp; omega⟩
          case hinj => intro i j _ _ hij s h1 h2; exact hij (uniqL (by decide) h1 h2)
          case hub => intro i i2 j h1 h2; exact uniqL (by decide) h1 h2
          case hua => intro i i2 j h1 h2; exact uniqL (by decide) h1 h2
          case hus => intro i i2 j h1 h2; exact uniqL (by decide) h1 h2
          case hlt => rintro i j (h1 | h1 | h1 | h1) <;> exact of_decide_eq_true (allL (p := fun s => decide (s < 3)) (by decide) h1)
          case hall =>
            intro j hj
            rcases (by omega : j = 0 ∨ j = 1 ∨ j = 2) with rfl|rfl|rfl
            · exact ⟨24, by decide, rfl⟩
            · exact ⟨27, by decide, rfl⟩
            · exact ⟨30, by decide, rfl⟩
          case hop =>
            intro i o ho
            match i, ho with
            | 0, ho => simp at ho; subst ho; exact ⟨rfl, rfl, .inl ⟨_, rfl, rfl, rfl, rfl, rfl, fun a w hF hP => exec_move rfl (eval_at ((hF.2.2 9 (.inl (by decide))).trans rfl))⟩⟩
            | 1, ho => simp at ho; subst ho; exact ⟨rfl, rfl, .inl ⟨_, rfl, rfl, rfl, rfl, rfl, fun a w hF hP => exec_move rfl (eval_at ((hF.2.2 9 (.inl (by decide))).trans rfl))⟩⟩
            | 2, ho => simp at ho; subst ho; exact ⟨rfl, rfl, .inl ⟨_, rfl, rfl, rfl, rfl, rfl, fun a w hF hP => exec_move rfl (eval_at ((hF.2.2 9 (.inl (by decide))).trans rfl))⟩⟩
            | 3, ho => simp at ho; subst ho; exact ⟨rfl, rfl, .inl ⟨_, rfl, rfl, rfl, rfl, rfl, fun a w hF hP => exec_move rfl (eval_at ((hF.2.2 9 (.inl (by decide))).trans rfl))⟩⟩
            | 4, ho => simp at ho; subst ho; exact ⟨rfl, rfl, .inl ⟨_, rfl, rfl, rfl, rfl, rfl, fun a w hF hP => exec_nil rfl (eval_at (hP ⟨3, .data⟩ (by simp) rfl _ _ rfl rfl))⟩⟩
            | 5, ho => simp at ho; subst ho; exact ⟨rfl, rfl, .inl ⟨_, rfl, rfl, rfl, rfl, rfl, fun a w hF hP => by have hx := hP ⟨4, .data⟩ (by simp) rfl _ _ rfl rfl; simp [execOp, hx, go_sem]⟩⟩
            | 6, ho => simp at ho; subst ho; exact ⟨rfl, rfl, .inr (.inl ⟨0, by decide, rfl, rfl, rfl, rfl, rfl, fun a w hF hP hc => by have hx := hP ⟨5, .data⟩ (by simp) rfl _ _ rfl rfl; simp only [ch8] at hc ⊢; simp [execOp, hx, hc, go_sem]⟩)⟩
            | 7, ho => simp at ho; subst ho; exact ⟨rfl, rfl, .inr (.inr (.inl ⟨0, by decide, rfl, rfl, rfl, rfl, rfl, fun a w hF hP => by simp [execOp, go_sem, ch8]⟩))⟩
            | 8, ho => simp at ho; subst ho; exact ⟨rfl, rfl, .inr (.inr (.inr (.inl ⟨0, by decide, rfl, rfl, rfl, rfl, rfl, ⟨6, .data⟩, ⟨7, .data⟩, 118, 119, by simp, rfl, rfl, rfl, rfl, by simp, rfl, rfl, rfl, rfl⟩)))⟩
            | 9, ho => simp at ho; subst ho; exact ⟨rfl, rfl, .inl ⟨_, rfl, rfl, rfl, rfl, rfl, fun a w hF hP => exec_move rfl (eval_at ((hF.2.2 9 (.inl (by decide))).trans rfl))⟩⟩
            | 10, ho => simp at ho; subst ho; exact ⟨rfl, rfl, .inl ⟨_, rfl, rfl, rfl, rfl, rfl, fun a w hF hP => exec_nil rfl (eval_at (hP ⟨9, .data⟩ (by simp) rfl _ _ rfl rfl))⟩⟩
            | 11, ho => simp at ho; subst ho; exact ⟨rfl, rfl, .inl ⟨_, rfl, rfl, rfl, rfl, rfl, fun a w hF hP => by have hx := hP ⟨10, .data⟩ (by simp) rfl _ _ rfl rfl; simp [execOp, hx, go_sem]⟩⟩
            | 12, ho => simp at ho; subst ho; exact ⟨rfl, rfl, .inr (.inl ⟨1, by decide, rfl, rfl, rfl, rfl, rfl, fun a w hF hP hc => by have hx := hP ⟨11, .data⟩ (by simp) rfl _ _ rfl rfl; simp only [ch8] at hc ⊢; simp [execOp, hx, hc, go_sem]⟩)⟩
            | 13, ho => simp at ho; subst ho; exact ⟨rfl, rfl, .inr (.inr (.inl ⟨1, by decide, rfl, rfl, rfl, rfl, rfl, fun a w hF hP => by simp [execOp, go_sem, ch8]⟩))⟩
            | 14, ho => simp at ho; subst ho; exact ⟨rfl, rfl, .inr (.inr (.inr (.inl ⟨1, by decide, rfl, rfl, rfl, rfl, rfl, ⟨12, .data⟩, ⟨13, .data⟩, 124, 125, by simp, rfl, rfl, rfl, rfl, by simp, rfl, rfl, rfl, rfl⟩)))⟩
            | 15, ho => simp at ho; subst ho; exact ⟨rfl, rfl, .inl ⟨_, rfl, rfl, rfl, rfl, rfl, fun a w hF hP => exec_move rfl (eval_at ((hF.2.2 9 (.inl (by decide))).trans rfl))⟩⟩
            | 16, ho => simp at ho; subst ho; exact ⟨rfl, rfl, .inl ⟨_, rfl, rfl, rfl, rfl, rfl, fun a w hF hP => exec_nil rfl (eval_at (hP ⟨15, .data⟩ (by simp) rfl _ _ rfl rfl))⟩⟩
            | 17, ho => simp at ho; subst ho; exact ⟨rfl, rfl, .inl ⟨_, rfl, rfl, rfl, rfl, rfl, fun a w hF hP => by have hx := hP ⟨16, .data⟩ (by simp) rfl _ _ rfl rfl; simp [execOp, hx, go_sem]⟩⟩
            | 18, ho => simp at ho; subst ho; exact ⟨rfl, rfl, .inr (.inl ⟨2, by decide, rfl, rfl, rfl, rfl, rfl, fun a w hF hP hc => by have hx := hP ⟨17, .data⟩ (by simp) rfl _ _ rfl rfl; simp only [ch8] at hc ⊢; simp [execOp, hx, hc, go_sem]⟩)⟩
            | 19, ho => simp at ho; subst ho; exact ⟨rfl, rfl, .inl ⟨_, rfl, rfl, rfl, rfl, rfl, fun a w hF hP => exec_move rfl (eval_at ((hF.2.2 6 (.inl (by decide))).trans rfl))⟩⟩
            | 20, ho => simp at ho; subst ho; exact ⟨rfl, rfl, .inr (.inr (.inl ⟨2, by decide, rfl, rfl, rfl, rfl, rfl, fun a w hF hP => by have hx := hP ⟨19, .data⟩ (by simp) rfl _ _ rfl rfl; simp [execOp, hx, go_sem, ch8]⟩))⟩
            | 21, ho => simp at ho; subst ho; exact ⟨rfl, rfl, .inr (.inr (.inr (.inl ⟨2, by decide, rfl, rfl, rfl, rfl, rfl, ⟨18, .data⟩, ⟨20, .data⟩, 130, 132, by simp, rfl, rfl, rfl, rfl, by simp, rfl, rfl, rfl, rfl⟩)))⟩
            | 22, ho => simp at ho; subst ho; exact ⟨rfl, rfl, .inl ⟨_, rfl, rfl, rfl, rfl, rfl, fun a w hF hP => exec_nil rfl (eval_at (hP ⟨0, .data⟩ (by simp) rfl _ _ rfl rfl))⟩⟩
            | 23, ho => simp at ho; subst ho; exact ⟨rfl, rfl, .inl ⟨_, rfl, rfl, rfl, rfl, rfl, fun a w hF hP => by have hx := hP ⟨22, .data⟩ (by simp) rfl _ _ rfl rfl; simp [execOp, hx, go_sem]⟩⟩
            | 24, ho => simp at ho; subst ho; exact ⟨rfl, rfl, .inr (.inr (.inr (.inr ⟨0, by decide, rfl, rfl, rfl, rfl, rfl, rfl, fun q hq => ⟨⟨6, .phase⟩, by simp, rfl, (getD_only hq (by decide) (by decide)).symm⟩, ⟨8, .data⟩, 120, by simp, rfl, rfl, rfl, fun a w p q r y hF hP hx hc hf => by have hp := hP ⟨23, .data⟩ (by simp) rfl _ _ rfl rfl; simp only [ch8] at hc hf ⊢; simp [execOp, hp, hx, hc, hf, go_sem]⟩)))⟩
            | 25, ho => simp at ho; subst ho; exact ⟨rfl, rfl, .inl ⟨_, rfl, rfl, rfl, rfl, rfl, fun a w hF hP => exec_nil rfl (eval_at (hP ⟨1, .data⟩ (by simp) rfl _ _ rfl rfl))⟩⟩
            | 26, ho => simp at ho; subst ho; exact ⟨rfl, rfl, .inl ⟨_, rfl, rfl, rfl, rfl, rfl, fun a w hF hP => by have hx := hP ⟨25, .data⟩ (by simp) rfl _ _ rfl rfl; simp [execOp, hx, go_sem]⟩⟩
            | 27, ho => simp at ho; subst ho; exact ⟨rfl, rfl, .inr (.inr (.inr (.inr ⟨1, by decide, rfl, rfl, rfl, rfl, rfl, rfl, fun q hq => ⟨⟨12, .phase⟩, by simp, rfl, (getD_only hq (by decide) (by decide)).symm⟩, ⟨14, .data⟩, 126, by simp, rfl, rfl, rfl, fun a w p q r y hF hP hx hc hf => by have hp := hP ⟨26, .data⟩ (by simp) rfl _ _ rfl rfl; simp only [ch8] at hc hf ⊢; simp [execOp, hp, hx, hc, hf, go_sem]⟩)))⟩
            | 28, ho => simp at ho; subst ho; exact ⟨rfl, rfl, .inl ⟨_, rfl, rfl, rfl, rfl, rfl, fun a w hF hP => exec_nil rfl (eval_at (hP ⟨2, .data⟩ (by simp) rfl _ _ rfl rfl))⟩⟩
            | 29, ho => simp at ho; subst ho; exact ⟨rfl, rfl, .inl ⟨_, rfl, rfl, rfl, rfl, rfl, fun a w hF hP => by have hx := hP ⟨28, .data⟩ (by simp) rfl _ _ rfl rfl; simp [execOp, hx, go_sem]⟩⟩
            | 30, ho => simp at ho; subst ho; exact ⟨rfl, rfl, .inr (.inr (.inr (.inr ⟨2, by decide, rfl, rfl, rfl, rfl, rfl, rfl, fun q hq => ⟨⟨18, .phase⟩, by simp, rfl, (getD_only hq (by decide) (by decide)).symm⟩, ⟨21, .data⟩, 133, by simp, rfl, rfl, rfl, fun a w p q r y hF hP hx hc hf => by have hp := hP ⟨29, .data⟩ (by simp) rfl _ _ rfl rfl; simp only [ch8] at hc hf ⊢; simp [execOp, hp, hx, hc, hf, go_sem]⟩)))⟩
            | i + 31, ho => simp at ho
          case hend =>
            intro a w9 K9 v9 hF
            obtain ⟨zs, hzs, hact⟩ := hF.form (by simp) (by decide)
            replace hzs : zs.length = 28 := by simpa using hzs
            obtain ⟨z112, zs0, e0, hzs0⟩ := list_cons (n := 27) hzs
            obtain ⟨z113, zs1, e1, hzs1⟩ := list_cons (n := 26) hzs0
            obtain ⟨z114, zs2, e2, hzs2⟩ := list_cons (n := 25) hzs1
            obtain ⟨z115, zs3, e3, hzs3⟩ := list_cons (n := 24) hzs2
            obtain ⟨z116, zs4, e4, hzs4⟩ := list_cons (n := 23) hzs3
            obtain ⟨z117, zs5, e5, hzs5⟩ := list_cons (n := 22) hzs4
            obtain ⟨z118, zs6, e6, hzs6⟩ := list_cons (n := 21) hzs5
            obtain ⟨z119, zs7, e7, hzs7⟩ := list_cons (n := 20) hzs6
            obtain ⟨z120, zs8, e8, hzs8⟩ := list_cons (n := 19) hzs7
            obtain ⟨z121, zs9, e9, hzs9⟩ := list_cons (n := 18) hzs8
            obtain ⟨z122, zs10, e10, hzs10⟩ := list_cons (n := 17) hzs9
            obtain ⟨z123, zs11, e11, hzs11⟩ := list_cons (n := 16) hzs10
            obtain ⟨z124, zs12, e12, hzs12⟩ := list_cons (n := 15) hzs11
            obtain ⟨z125, zs13, e13, hzs13⟩ := list_cons (n := 14) hzs12
            obtain ⟨z126, zs14, e14, hzs14⟩ := list_cons (n := 13) hzs13
            obtain ⟨z127, zs15, e15, hzs15⟩ := list_cons (n := 12) hzs14
            obtain ⟨z128, zs16, e16, hzs16⟩ := list_cons (n := 11) hzs15
            obtain ⟨z129, zs17, e17, hzs17⟩ := list_cons (n := 10) hzs16
            obtain ⟨z130, zs18, e18, hzs18⟩ := list_cons (n := 9) hzs17
            obtain ⟨z131, zs19, e19, hzs19⟩ := list_cons (n := 8) hzs18
            obtain ⟨z132, zs20, e20, hzs20⟩ := list_cons (n := 7) hzs19
            obtain ⟨z133, zs21, e21, hzs21⟩ := list_cons (n := 6) hzs20
            obtain ⟨z134, zs22, e22, hzs22⟩ := list_cons (n := 5) hzs21
            obtain ⟨z135, zs23, e23, hzs23⟩ := list_cons (n := 4) hzs22
            obtain ⟨z136, zs24, e24, hzs24⟩ := list_cons (n := 3) hzs23
            obtain ⟨z137, zs25, e25, hzs25⟩ := list_cons (n := 2) hzs24
            obtain ⟨z138, zs26, e26, hzs26⟩ := list_cons (n := 1) hzs25
            obtain ⟨z139, zs27, e27, hzs27⟩ := list_cons (n := 0) hzs26
            obtain rfl := List.eq_nil_of_length_eq_zero hzs27
            subst e27 e26 e25 e24 e23 e22 e21 e20 e19 e18 e17 e16 e15 e14 e13 e12 e11 e10 e9 e8 e7 e6 e5 e4 e3 e2 e1 e0
            subst hact
            intro hst9 hbl9 hsz9 hsm9 hfr9 hgr9
            simp only [List.take_succ_cons, List.take_zero, List.drop_succ_cons, List.drop_zero, List.cons_append, List.nil_append]
            go_wp2_with fail
            go_meet
            exact ⟨K9, v9, hst9, hbl8.trans hbl9, hsz9, hsm9, hfr9, hgr9⟩
        case rest =>
          obtain ⟨K9, v9, hst9, hbl9, hsz9, hsm9, hfr9, hgr9⟩ := hcut
          obtain ⟨_, _, _, G7⟩ := hgr9 0 (by omega)
          obtain ⟨_, _, _, G8⟩ := hgr9 1 (by omega)
          obtain ⟨_, _, _, G9⟩ := hgr9 2 (by omega)
          have A9 : ∀ n, n < 1000 → n ≠ 7 → n ≠ 8 → n ≠ 9 → K9 n = K8 n := by
            intro n h1 h2 h3 h4
            refine hfr9 n (fun j hj => ?_)
            rcases (by omega : j = 0 ∨ j = 1 ∨ j = 2) with rfl|rfl|rfl <;> (simp [ch8]; omega)
          clear hfr9 hgr9
          have B9 : ∀ n, n < 1000 → n ≠ 0 → n ≠ 1 → n ≠ 2 → n ≠ 3 → n ≠ 4 → n ≠ 5 → n ≠ 6 → n ≠ 7 → n ≠ 8 → n ≠ 9 → n ≠ 10 → n ≠ 11 → n ≠ 300 + (J.length + 2) → K9 n = K n := by
            intro n h1 _ _ _ _ _ _ _ _ _ _ _ _ _
            rw [A9 n h1 (by omega) (by omega) (by omega), A8 n h1 (by omega) (by omega), A7 n h1 (by omega) (by omega), A6 n h1 (by omega) (by omega) (by omega), FF n (by omega) (by omega) (by omega)]
          have Q0 : K9 0 = some ⟨21, 1, c.N, c.pl, plRow (plJ (J ++ [u])) c.N⟩ := by rw [A9 0 (by omega) (by omega) (by omega) (by omega), A8 0 (by omega) (by omega) (by omega), A7 0 (by omega) (by omega) (by omega), A6 0 (by omega) (by omega) (by omega) (by omega)]; exact F0
          have Q1 : K9 1 = some ⟨3, 1, J.length + 2 + 1, .slice (some ⟨g2, 0, none⟩) (J.length + 2 + 1) c2, ints (0 :: c.N :: (J ++ [u]))⟩ := by rw [A9 1 (by omega) (by omega) (by omega) (by omega), A8 1 (by omega) (by omega) (by omega), A7 1 (by omega) (by omega) (by omega), A6 1 (by omega) (by omega) (by omega) (by omega)]; exact F1
          have Qy : K9 (300 + (J.length + 2)) = some ⟨3, 1, lo.length, .slice ya lo.length yc, ints lo⟩ := by rw [A9 _ (by omega) (by omega) (by omega) (by omega), A8 _ (by omega) (by omega) (by omega), A7 _ (by omega) (by omega) (by omega), A6 _ (by omega) (by omega) (by omega) (by omega)]; exact Fy
          have V2 : v9.out = v6.out := by rw [hsm9, hsm8, hsm7]
          have V3 : v9.inn = v6.inn := by rw [hsm9, hsm8, hsm7]
          have V4 : v9.gone = v6.gone := by rw [hsm9, hsm8, hsm7]
          have V5 : v9.reached = v8.reached := by rw [hsm9]
          have V6 : v9.frm = v8.frm := by rw [hsm9]
          have Q2 : K9 2 = some ⟨26, 1, J.length + 2 + 1, v9.out, vsO ++ [.slice ya lo.length yc]⟩ := by rw [A9 2 (by omega) (by omega) (by omega) (by omega), A8 2 (by omega) (by omega) (by omega), A7 2 (by omega) (by omega) (by omega), V2]; exact G2
          have Q3 : K9 3 = some ⟨26, 1, J.length + 2 + 1, v9.inn, vsI ++ [.slice none 0 0]⟩ := by rw [A9 3 (by omega) (by omega) (by omega) (by omega), A8 3 (by omega) (by omega) (by omega), A7 3 (by omega) (by omega) (by omega), V3]; exact G3
          have Q4 : K9 4 = some ⟨4, 1, J.length + 2 + 1, v9.gone, List.replicate (J.length + 2) (.bool false) ++ [.bool false]⟩ := by rw [A9 4 (by omega) (by omega) (by omega) (by omega), A8 4 (by omega) (by omega) (by omega), A7 4 (by omega) (by omega) (by omega), V4]; exact G4
          have Q5 : K9 5 = some ⟨4, 1, J.length + 2 + 1, v9.reached, (.bool false :: List.replicate (J.length + 1) (.bool true)) ++ [.bool true]⟩ := by rw [A9 5 (by omega) (by omega) (by omega) (by omega), V5]; exact G5
          have Q6 : K9 6 = some ⟨3, 1, J.length + 2 + 1, v9.frm, rowOf f6 (J.length + 2) ++ [.int .i64 0]⟩ := by rw [A9 6 (by omega) (by omega) (by omega) (by omega), V6]; exact G6
          have Q10 : K9 10 = some ⟨125, 1, J.length + 2 + 1, v9.home, List.replicate (J.length + 2) (.pointer none) ++ [.pointer none]⟩ := by rw [A9 10 (by omega) (by omega) (by omega) (by omega), A8 10 (by omega) (by omega) (by omega), show v9.home = v7.home from by rw [hsm9, hsm8]]; exact G10
          have Q11 : K9 11 = some ⟨21, 1, J.length + 2 + 1, v9.at', xa ++ [.int .i32 0]⟩ := by rw [A9 11 (by omega) (by omega) (by omega) (by omega), A8 11 (by omega) (by omega) (by omega), show v9.at' = v7.at' from by rw [hsm9, hsm8]]; exact G11
          have eN : v9.inn = .slice (some ⟨gN, 0, none⟩) (J.length + 2 + 1) cN := V3.trans eI6
          have eR : v9.reached = .slice (some ⟨gR, 0, none⟩) (J.length + 2 + 1) cR := V5.trans eR8
          have eF : v9.frm = .slice (some ⟨gF, 0, none⟩) (J.length + 2 + 1) cF := V6.trans eF8
          have hv9 : v9.ids = .slice (some ⟨g2, 0, none⟩) (J.length + 2 + 1) c2 ∧ v9.work = v.work ∧ v9.st = v.st ∧ v9.fresh = v.fresh ∧ v9.gained = v.gained ∧ v9.marks = v.marks ∧ v9.mark = v.mark ∧ v9.parked = v.parked := by
            rw [hsm9, hsm8, hsm7, hsm6, hv5]
            exact ⟨rfl, rfl, rfl, rfl, rfl, rfl, rfl, rfl⟩
          have hst10 : St c (upd K9 (400 + (J.length + 2)) ⟨3, 1, 0, .slice none 0 0, []⟩) v9 wc := hst9.grow (hst9.sep.nils 3 _) (upd_ty hst9.ty _ _ ty3) (r := none) ⟨rfl, rfl, rfl, Nat.le_refl _, fun _ _ _ => rfl⟩ (fun b e => by cases e)
          have M10 : Mat (upd K9 (400 + (J.length + 2)) ⟨3, 1, 0, .slice none 0 0, []⟩) 3 400 (J.length + 2 + 1) (.slice (some ⟨gN, 0, none⟩) (J.length + 2 + 1) cN) (inAt I lo (J.length + 2) 0) := by
            have hvl : vsI.length = J.length + 2 := by have := (h.sep.form eI).1; simpa using this
            refine ⟨vsI ++ [.slice none 0 0], by rw [upd_other _ _ (by omega), ← eN]; exact Q3, fun q hq => ?_⟩
            by_cases hqM : q = J.length + 2
            · subst hqM
              exact ⟨.slice none 0 0, by rw [← hvl]; simp, by rw [upd_same]; simp [inAt, ints]⟩
            · obtain ⟨r, p1, p2⟩ := hI q (by omega)
              refine ⟨r, by rw [List.getElem?_append_left (by omega)]; exact p1, ?_⟩
              rw [upd_other _ _ (by omega), B9 _ (by omega) (by omega) (by omega) (by omega) (by omega) (by omega) (by omega) (by omega) (by omega) (by omega) (by omega) (by omega) (by omega) (by omega), p2]
              simp [inAt, hqM]
          have Q6' : K9 6 = some ⟨3, 1, J.length + 2 + 1, .slice (some ⟨gF, 0, none⟩) (J.length + 2 + 1) cF, rowOf (fun y => if y = J.length + 2 then (((0 : Nat) : Int)) else f6 y) (J.length + 2 + 1)⟩ := by
            rw [Q6, eF]
            simp only [rowOf, List.range_succ (n := J.length + 2), List.map_append, List.map_cons, List.map_nil, if_true]
            congr 3
            apply List.map_congr_left
            intro y hy
            have := List.mem_range.1 hy
            rw [if_neg (by omega)]
          have hlo : ∀ q ∈ lo, 1 ≤ q ∧ q < J.length + 2 := by
            intro q hq
            obtain ⟨y, hy, h2, h3⟩ := mem_plsOf.1 (hperm.subset hq)
            have hyu : y ≠ u := by rintro rfl; exact hul hy
            unfold plOf at h2
            split at h2
            · cases h2; omega
            · rw [plJ_snoc huJ (by omega) y, if_neg hyu] at h2
              have := plJ_le J y
              split at h2
              · cases h2
              · rename_i hne
                cases h2
                unfold plJ at hne
                unfold plJ at this ⊢
                split at hne
                · omega
                · rename_i h0
                  rw [if_neg h0] at this ⊢
                  split at hne
                  · rename_i hm
                    have := List.idxOf_lt_length_of_mem hm
                    rw [if_pos hm]
                    omega
                  · omega
          have hlnd : lo.Nodup := hperm.nodup_iff.2 HND.out
          obtain ⟨K10, hK10, N10, E10'⟩ : ∃ K10 : Nat → Option Ent, K10 = upd K9 (400 + (J.length + 2)) ⟨3, 1, 0, .slice none 0 0, []⟩ ∧ K10 (400 + (J.length + 2)) = some ⟨3, 1, 0, .slice none 0 0, []⟩ ∧ ∀ n, n ≠ 400 + (J.length + 2) → K10 n = K9 n := ⟨_, rfl, upd_same _ _ _, fun n hn => upd_other _ _ hn⟩
          rw [← hK10] at hst10 M10
          have HLO : Hid (∀ q ∈ lo, 1 ≤ q ∧ q < J.length + 2) := hlo
          have HLN : Hid lo.Nodup := hlnd
          have HI : Hid (∀ u, u < J.length + 2 → ∃ r, vsI[u]? = some r ∧ K (400 + u) = some ⟨3, 1, (I u).length, r, ints (I u)⟩) := hI
          have HO : Hid (∀ u, u < J.length + 2 → ∃ r, vsO[u]? = some r ∧ K (300 + u) = some ⟨3, 1, (O u).length, r, ints (O u)⟩) := hO
          have HB9 : Hid (∀ n, n < 1000 → n ≠ 0 → n ≠ 1 → n ≠ 2 → n ≠ 3 → n ≠ 4 → n ≠ 5 → n ≠ 6 → n ≠ 7 → n ≠ 8 → n ≠ 9 → n ≠ 10 → n ≠ 11 → n ≠ 300 + (J.length + 2) → K9 n = K n) := B9
          have H10 : Hid (∀ n, n ≠ 400 + (J.length + 2) → K10 n = K9 n) := E10'
          clear A6 A7 A8 A9 FF B9 hI hO hlo hlnd E10' hsm6 hsm7 hsm8 hsm9 hst5 hst6 hst7 hst7q hst8 hst9
          go_wp2_with fail
          go_loopw [142] (fun iv wr => ∃ (i : Nat) (Kr : Nat → Option Ent), i ≤ lo.length ∧ iv = .int .i64 i ∧ Below c.base w wr ∧ c.base ≤ wr.heap.size ∧ St c Kr v9 wr ∧ Mat Kr 3 400 (J.length + 2 + 1) (.slice (some ⟨gN, 0, none⟩) (J.length + 2 + 1) cN) (inAt I lo (J.length + 2) i) ∧ Kr 6 = some ⟨3, 1, J.length + 2 + 1, .slice (some ⟨gF, 0, none⟩) (J.length + 2 + 1) cF, rowOf (fun y => if y = J.length + 2 then (i : Int) else f6 y) (J.length + 2 + 1)⟩ ∧ ∀ n, n < 1000 → n ≠ 3 → n ≠ 6 → ¬ (400 ≤ n ∧ n < 400 + (J.length + 2 + 1)) → Kr n = K10 n) (fun iv _ => lo.length - (intOf iv).toNat)
          case atStart => exact ⟨0, K10, Nat.zero_le _, rfl, hbl9, hsz9, hst10, M10, by rw [H10.out 6 (by omega)]; exact Q6', fun n _ _ _ _ => rfl⟩
          case round =>
            clear hst10 M10 Q6'
            obtain ⟨i, Kr, hi, rfl, hbr, hszr, hstr, hMr, Hr6, hfr⟩ := hrel
            have Hry : Kr (300 + (J.length + 2)) = some ⟨3, 1, lo.length, .slice ya lo.length yc, ints lo⟩ := by rw [hfr _ (by omega) (by omega) (by omega) (by omega), H10.out _ (by omega)]; exact Qy
            by_cases hil : i < lo.length
            · have hil' : (i : Int) < (lo.length : Int) := by omega
              obtain ⟨_, _, hyv, hyg⟩ := hstr.sep.shape Hry
              obtain ⟨gy, hgy⟩ := hyg (by omega)
              simp only [Value.slice.injEq] at hyv
              obtain ⟨hya, hyx, hyz⟩ := hyv
              clear hyx hyz
              rw [hgy] at hya
              clear hyg hgy
              subst hya
              obtain ⟨q, hq⟩ : ∃ q, lo[i]? = some q := ⟨_, List.getElem?_eq_getElem hil⟩
              have cq := hstr.sep.cell Hry (ints_at hq)
              obtain ⟨hq1, hqM⟩ := HLO.out q (List.mem_of_getElem? hq)
              have c11 : wr.cell? ⟨c.C, 11, none⟩ = some (.slice (some ⟨gN, 0, none⟩) (J.length + 2 + 1) cN) := by rw [← eN]; exact hstr.hC.cell? 11
              obtain ⟨vs3, e3r, hvs3⟩ := hMr.ex
              obtain ⟨r, hvq, hrow⟩ := hvs3 q (by omega)
              clear hvs3
              obtain ⟨ra, rc, rfl, _⟩ := hstr.sep.shape hrow
              have cr := hstr.sep.cell e3r hvq
              have c11A : (wr.alloc (.cells #[.int .i64 ((J.length : Int) + 2)] 3)).cell? ⟨c.C, 11, none⟩ = some (.slice (some ⟨gN, 0, none⟩) (J.length + 2 + 1) cN) := by rw [← eN]; exact (hstr.alloc _).hC.cell? 11
              have crA := (hstr.alloc (.cells #[.int .i64 ((J.length : Int) + 2)] 3)).sep.cell e3r hvq
              have hIl : (inAt I lo (J.length + 2) i q).length ≤ B + 1 := by
                have := HR.out.bI q
                unfold inAt
                split
                · simp
                · split
                  · simp; omega
                  · omega
              have hqM' : (q : Int) < ((J.length : Int) + 2 + 1) := by omega
              have hgNC : gN ≠ c.C := fun e => hstr.sep.neTy hstr.hC e3r (show (26 : Nat) ≠ 43 by decide) (by rw [← e]; rfl)
              have hCl : c.C ≠ wr.heap.size := hstr.hC.old
              have hNl : gN ≠ wr.heap.size := by have := (hstr.sep.lt e3r gN rfl).2; omega
              go_upto_region 12 with fail
              go_cut [] from 146 to 161 (fun wc => ∃ K2, St c K2 v9 wc ∧ Below c.base w wc ∧ c.base ≤ wc.heap.size ∧ Mat K2 3 400 (J.length + 2 + 1) (.slice (some ⟨gN, 0, none⟩) (J.length + 2 + 1) cN) (inAt I lo (J.length + 2) (i + 1)) ∧ ∀ n, n ≠ 3 → n ≠ 400 + q → K2 n = Kr n)
              case first =>
                go_region_law (refine step_app1 _ rfl (.tmp 157) (.tmp 159) 26 rfl (hstr.drew.alloc _).sep hrow Yba.underlying26 info3 rfl (by first | rfl | simp [Act.eval]) wr.heap.size 1 (.int .i64 ((J.length : Int) + 2)) (by first | rfl | simp [Act.eval]) (by first | rfl | simp) rfl (by omega) (by omega) (by simp; omega) ?_; intro g2' c2' w2 hs2 hg2 hb2; have hst2 := (hstr.drew.alloc _).grow hs2 (upd_ty hstr.ty _ _ ty3) hg2 (fun b hb => ⟨_, _, hrow, hb⟩); have d11 : w2.cell? ⟨c.C, 11, none⟩ = some (.slice (some ⟨gN, 0, none⟩) (J.length + 2 + 1) cN) := (by rw [← eN]; exact hst2.hC.cell? 11); obtain ⟨⟨r3, d3⟩, f3, hgNb, K2, hsK2, hMK2, hfK2⟩ := Mat.push (x := J.length + 2) hMr (u := q) (by omega) (fun y hy => by omega) (by rw [hpc]; exact hs2))
                all_goals
                  go_wp2_with fail
                  go_meet
                  refine ⟨K2, ?_, ?_, ?_, ?_, hfK2⟩
                  · refine hst2.grow hsK2 ?_ (r := some gN) ⟨rfl, rfl, rfl, by simp, fun b _ hb => Below.heap_setCell _ _ _ _ (fun e => hb (by rw [e]))⟩ (fun b hb' => ⟨3, _, by rw [upd_other _ _ (by omega)]; exact e3r, by simpa [Value.ownBlock] using hb'⟩)
                    intro n e hn
                    by_cases h3 : n = 3
                    · subst h3
                      obtain ⟨vs, e1, _⟩ := hMK2.ex
                      rw [e1] at hn
                      cases hn
                      exact ty26
                    · by_cases h4 : n = 400 + q
                      · subst h4
                        obtain ⟨vs, _, e1⟩ := hMK2.ex
                        obtain ⟨r, _, e1⟩ := e1 q (by omega)
                        rw [e1] at hn
                        cases hn
                        exact ty3
                      · rw [hfK2 n h3 h4] at hn
                        exact hstr.ty n e hn
                  · exact ((hbr.drew.alloc (by simpa using hszr) _).trans hb2).setCell hgNb _
                  · have := hb2.size; simp at this ⊢; omega
                  · exact hMK2.congr (fun y hy => inAt_step hq (by omega) HLN.out y)
              case rest =>
                obtain ⟨K2, hst2, hbl2, hsz2, hM2, hf2⟩ := hcut
                have e5 : K2 5 = some ⟨4, 1, J.length + 2 + 1, .slice (some ⟨gR, 0, none⟩) (J.length + 2 + 1) cR, (.bool false :: List.replicate (J.length + 1) (.bool true)) ++ [.bool true]⟩ := by rw [hf2 5 (by omega) (by omega), hfr 5 (by omega) (by omega) (by omega) (by omega), H10.out 5 (by omega), Q5, eR]
                have e6 : K2 6 = some ⟨3, 1, J.length + 2 + 1, .slice (some ⟨gF, 0, none⟩) (J.length + 2 + 1) cF, rowOf (fun y => if y = J.length + 2 then (i : Int) else f6 y) (J.length + 2 + 1)⟩ := by rw [hf2 6 (by omega) (by omega)]; exact Hr6
                have c5 := hst2.sep.cell e5 (j := q) (x := .bool true) (by
                  obtain ⟨k, rfl⟩ : ∃ k, q = k + 1 := ⟨q - 1, by omega⟩
                  rw [List.getElem?_append_left (by simp; omega), List.getElem?_cons_succ, List.getElem?_replicate, if_pos (by omega)])
                have c6 := hst2.sep.cell e6 (rowOf_get _ (u := J.length + 2) (by omega))
                have f6' := hst2.sep.free e6 (J.length + 2)
                simp only [if_true] at c6
                have b0 : wc.cell? ⟨c.BT, 0, none⟩ = some (.slice (some ⟨gR, 0, none⟩) (J.length + 2 + 1) cR) := by rw [← eR]; exact hst2.hBT.cell? 0
                have b1 : wc.cell? ⟨c.BT, 1, none⟩ = some (.slice (some ⟨gF, 0, none⟩) (J.length + 2 + 1) cF) := by rw [← eF]; exact hst2.hBT.cell? 1
                have hs3 := hst2.sep.put e6 (j := J.length + 2) (.int .i64 ((i : Int) + 1))
                rw [rowOf_set] at hs3
                have hst3' := hst2.grow hs3 (upd_ty hst2.ty _ _ ty3) (r := some gF) ⟨rfl, rfl, rfl, by simp, fun b _ hb => Below.heap_setCell _ _ _ _ (fun e => hb (by rw [e]))⟩ (fun b hb => ⟨6, _, e6, hb⟩)
                have hgFb := (hst2.sep.lt e6 gF rfl).1
                have HM2 : Hid (Mat K2 3 400 (J.length + 2 + 1) (.slice (some ⟨gN, 0, none⟩) (J.length + 2 + 1) cN) (inAt I lo (J.length + 2) (i + 1))) := hM2
                have HF2 : Hid (∀ n, n ≠ 3 → n ≠ 400 + q → K2 n = Kr n) := hf2
                have HFR : Hid (∀ n, n < 1000 → n ≠ 3 → n ≠ 6 → ¬ (400 ≤ n ∧ n < 400 + (J.length + 2 + 1)) → Kr n = K10 n) := hfr
                clear hM2 hMr hf2 hfr hs3 hstr
                go_wp2_with fail
                refine ⟨⟨i + 1, _, by omega, by go_num, hbl2.setCell hgFb _, by simpa using hsz2, hst3', HM2.out.keep (upd_other _ _ (by omega)) (fun u hu => upd_other _ _ (by omega)), ?_, fun n h0 h1 h2 h3 => ?_⟩, by simp [intOf]; omega⟩
                · rw [upd_same]
                  congr 3
                  funext y
                  by_cases hy : y = J.length + 2
                  · simp [hy]
                  · simp [hy]
                · rw [upd_other _ _ h2, HF2.out n h1 (by omega)]
                  exact HFR.out n h0 h1 h2 h3
            · have hil' : ¬ ((i : Int) < (lo.length : Int)) := by omega
              obtain rfl : i = lo.length := by omega
              have c5 : wr.cell? ⟨c.C, 5, none⟩ = some (.int .i64 0) := hstr.hC.cell? 5
              have e12 : Kr 12 = some ⟨3, 1, J.length, v9.fresh, ints (List.range' 2 J.length)⟩ := by rw [hfr 12 (by omega) (by omega) (by omega) (by omega), H10.out 12 (by omega), HB9.out 12 (by omega) (by omega) (by omega) (by omega) (by omega) (by omega) (by omega) (by omega) (by omega) (by omega) (by omega) (by omega) (by omega) (by omega), hv9.2.2.2.1]; exact HR.out.r12
              have c31 : wr.cell? ⟨c.C, 31, none⟩ = some v9.fresh := hstr.hC.cell? 31
              obtain ⟨fa, fc, hfrs, _⟩ := hstr.sep.shape e12
              rw [hfrs] at c31
              have hu0 : ¬ ((u : Int) < 0) := by omega
              have HMR : Hid (Mat Kr 3 400 (J.length + 2 + 1) (.slice (some ⟨gN, 0, none⟩) (J.length + 2 + 1) cN) (inAt I lo (J.length + 2) lo.length)) := hMr
              have HFR : Hid (∀ n, n < 1000 → n ≠ 3 → n ≠ 6 → ¬ (400 ≤ n ∧ n < 400 + (J.length + 2 + 1)) → Kr n = K10 n) := hfr
              clear hMr hfr
              go_wp2_with (first | (at_builtin; refine wpList_app1 _ rfl _ _ 26 rfl (hstr.sep.alloc _) e12 Yba.underlying26 info3 rfl (by first | rfl | exact hfrs.symm) wr.heap.size 1 (.int .i64 ((J.length : Int) + 2)) rfl (by simp) rfl (by omega) (by omega) (by simp; omega) ?_; intro g3 c3 w2 hs2 hg2 hb2; have hst2 := (hstr.alloc _).grow hs2 (upd_ty hstr.ty _ _ ty3) hg2 (fun b hb => ⟨12, _, e12, hb⟩); have d31 : w2.cell? ⟨c.C, 31, none⟩ = some v9.fresh := hst2.hC.cell? 31; have f31 := hst2.hC.free 31) | fail)
              go_end0
              have hst3 : St c _ { v9 with fresh := .slice (some ⟨g3, 0, none⟩) (J.length + 1) c3 } (w2.setCell ⟨c.C, 31, none⟩ (.slice (some ⟨g3, 0, none⟩) (J.length + 1) c3)) := hst2.setC 31 _ rfl rfl rfl rfl rfl rfl rfl
              refine ⟨rfl, ((hbr.alloc hszr _).trans hb2).setCell h.lo.1 _, _, _, lo, hperm, hst3, hv9.2.1, ?_⟩
              have hlen : (J ++ [u]).length = J.length + 1 := by simp
              have hM1 : J.length + 1 + 2 = J.length + 2 + 1 := by omega
              have W9 : ∀ n, n < 1000 → n ≠ 3 → n ≠ 6 → n ≠ 12 → ¬ (400 ≤ n ∧ n < 400 + (J.length + 2 + 1)) → upd Kr 12 ⟨3, 1, J.length + 1, .slice (some ⟨g3, 0, none⟩) (J.length + 1) c3, ints (List.range' 2 J.length) ++ [.int .i64 ((J.length : Int) + 2)]⟩ n = K9 n := by
                intro n h0 h1 h2 h3 h4
                rw [upd_other _ _ h3, HFR.out n h0 h1 h2 h4, H10.out n (by omega)]
              have W : ∀ n, n < 1000 → 12 ≤ n → n ≠ 12 → n ≠ 300 + (J.length + 2) → ¬ (400 ≤ n ∧ n < 400 + (J.length + 2 + 1)) → upd Kr 12 ⟨3, 1, J.length + 1, .slice (some ⟨g3, 0, none⟩) (J.length + 1) c3, ints (List.range' 2 J.length) ++ [.int .i64 ((J.length : Int) + 2)]⟩ n = K n := by
                intro n h0 h1 h2 h3 h4
                rw [W9 n h0 (by omega) (by omega) h2 h4]
                exact HB9.out n h0 (by omega) (by omega) (by omega) (by omega) (by omega) (by omega) (by omega) (by omega) (by omega) (by omega) (by omega) (by omega) h3
              have hR := HR.out
              have hv9' := hv9
              obtain ⟨k1, k2, k3, k4, k5, k6, k7, k8⟩ := hv9
              refine ⟨?_, ?_, ?_, ?_, ?_, ?_, ?_, ?_, ?_, ?_, ?_, ?_, ?_, ?_, ?_, ?_, ?_, ?_, ?_, ?_, ?_⟩
              · rw [W9 0 (by omega) (by omega) (by omega) (by omega) (by omega)]; exact Q0
              · rw [W9 1 (by omega) (by omega) (by omega) (by omega) (by omega), Q1, hlen, hM1]; exact congrArg _ (by rw [← k1])
              · rw [hlen, hM1]
                refine ⟨vsO ++ [.slice ya lo.length yc], by rw [W9 2 (by omega) (by omega) (by omega) (by omega) (by omega)]; exact Q2, fun p hp => ?_⟩
                have hvl : vsO.length = J.length + 2 := by have := (h.sep.form eO).1; simpa using this
                by_cases hpM : p = J.length + 2
                · subst hpM
                  refine ⟨.slice ya lo.length yc, by rw [← hvl]; simp, ?_⟩
                  rw [W9 _ (by omega) (by omega) (by omega) (by omega) (by omega), Qy]
                  simp
                · obtain ⟨r, p1, p2⟩ := HO.out p (by omega)
                  refine ⟨r, by rw [List.getElem?_append_left (by omega)]; exact p1, ?_⟩
                  rw [W _ (by omega) (by omega) (by omega) (by omega) (by omega), p2]
                  simp [hpM]
              · rw [hlen, hM1]
                show Mat _ 3 400 _ v9.inn _
                rw [eN]
                refine (HMR.out.keep (upd_other _ _ (by omega)) (fun q hq => upd_other _ _ (by omega))).congr (fun q hq => ?_)
                simp only [inAt, List.take_length]
              · rw [W9 4 (by omega) (by omega) (by omega) (by omega) (by omega), Q4, hlen, hM1, List.replicate_succ' (n := J.length + 2)]
              · rw [W9 5 (by omega) (by omega) (by omega) (by omega) (by omega), Q5, hlen, hM1, List.replicate_succ' (n := J.length + 1)]; rfl
              · refine ⟨fun y => if y = J.length + 2 then (lo.length : Int) else f6 y, ?_, fun p => ?_⟩
                · rw [upd_other _ _ (by omega), Hr6, hlen, hM1]; exact congrArg _ (by rw [← eF])
                · have := HB6.out p
                  show 0 ≤ (if p = J.length + 2 then (lo.length : Int) else f6 p) ∧ (if p = J.length + 2 then (lo.length : Int) else f6 p) ≤ ((B + 8 : Nat) : Int)
                  split
                  · omega
                  · omega
              · rw [W9 7 (by omega) (by omega) (by omega) (by omega) (by omega), hlen, hM1, ← rowOf_snoc]; exact G7
              · refine ⟨fun y => if y = J.length + 2 then 0 else f8 y, ?_, fun p => ?_⟩
                · rw [W9 8 (by omega) (by omega) (by omega) (by omega) (by omega), hlen, hM1, ← rowOf_snoc]; exact G8
                · have := HB8.out p
                  show -1 ≤ (if p = J.length + 2 then (0 : Int) else f8 p) ∧ (if p = J.length + 2 then (0 : Int) else f8 p) ≤ ((B + 8 : Nat) : Int)
                  split
                  · omega
                  · omega
              · rw [hlen]; exact ⟨_, (W9 9 (by omega) (by omega) (by omega) (by omega) (by omega)).trans G9⟩
              · rw [W9 10 (by omega) (by omega) (by omega) (by omega) (by omega), Q10, hlen, hM1, List.replicate_succ' (n := J.length + 2)]
              · rw [hlen, hM1]; exact ⟨_, (W9 11 (by omega) (by omega) (by omega) (by omega) (by omega)).trans Q11⟩
              · rw [upd_same, hlen, List.range'_concat]
                simp [ints, Nat.add_comm]
              · rw [W 13 (by omega) (by omega) (by omega) (by omega) (by omega)]
                show _ = some (⟨3, 1, m, v9.marks, _⟩ : Ent) ∧ v9.mark = _ ∧ (m = 0 → v9.marks = _)
                rw [k6, k7]
                exact hR.r13
              · rw [W 14 (by omega) (by omega) (by omega) (by omega) (by omega)]
                show ∃ q : List Nat, _ = some (⟨22, 1, q.length, v9.parked, u64s q⟩ : Ent) ∧ _
                rw [k8]
                obtain ⟨q, p1, p2⟩ := hR.r14
                exact ⟨q, p1, by omega⟩
              · rw [W 18 (by omega) (by omega) (by omega) (by omega) (by omega), hlen]
                show ∃ g : List (Nat × Nat), _ = some (⟨120, 2, g.length, v9.gained, pairs g⟩ : Ent) ∧ _
                rw [k5]
                obtain ⟨g, p1, p2, p3⟩ := hR.r18
                exact ⟨g, p1, by omega, fun x hx => by have := p3 x hx; omega⟩
              · intro n h1 h2
                rw [W n (by omega) (by omega) (by omega) (by omega) (by omega)]
                exact hR.rD n h1 h2
              · intro p
                have := hR.bO p
                show (if p = J.length + 2 then lo else O p).length ≤ B + 8
                split
                · omega
                · omega
              · intro p
                have := hR.bI p
                show (if p = J.length + 2 then [] else if p ∈ lo then I p ++ [J.length + 2] else I p).length ≤ B + 8
                split
                · simp
                · split
                  · simp; omega
                  · omega
              · rw [hlen]; omega
              · exact k3.trans hR.st
end Go.Proofs.Ybulkuoc
