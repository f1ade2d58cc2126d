/- takeIn. -/
import Derived.Test.YbulkuocPlain
namespace Go.Proofs.Ybulkuoc
open Go.RowKit

theorem Rw.mono {c : Tc} {K : Nat → Option Ent} {v : Tv} {D : Nat → Option Ent} {J : List Nat} {O I : Nat → List Nat} {L : Nat → Int} {B B' m : Nat} (h : Rw c K v D J O I L B m) (hB : B ≤ B') (x : Int) : Rw c K { v with work := x } D J O I L B' m := by
  obtain ⟨f6, q6, b6⟩ := h.r6
  obtain ⟨f8, q8, b8⟩ := h.r8
  obtain ⟨pk, q14, b14⟩ := h.r14
  obtain ⟨gd, q18, b18, p18⟩ := h.r18
  exact h.turn (fun k h1 h2 h3 h4 h5 h6 => rfl) rfl hB ⟨f6, q6, fun y => by have := b6 y; omega⟩ h.r7 ⟨f8, q8, fun y => by have := b8 y; omega⟩ ⟨pk, q14, by omega⟩ ⟨gd, q18, by omega, p18⟩
theorem Rw.adj {c : Tc} {K : Nat → Option Ent} {v : Tv} {D : Nat → Option Ent} {J : List Nat} {O I A : Nat → List Nat} {L : Nat → Int} {B m : Nat} {x : Value} (h : Rw c K v D J O I L B m) (hN : c.N ≤ 8) (hD : Mat D 19 100 c.N x A) : Mat K 19 100 c.N x A := hD.keep (h.rD 19 (by omega) (by omega)) (fun u hu => h.rD _ (by omega) (by omega))
theorem Rw.prd {c : Tc} {K : Nat → Option Ent} {v : Tv} {D : Nat → Option Ent} {J : List Nat} {O I A : Nat → List Nat} {L : Nat → Int} {B m : Nat} {x : Value} (h : Rw c K v D J O I L B m) (hN : c.N ≤ 8) (hD : Mat D 20 200 c.N x A) : Mat K 20 200 c.N x A := hD.keep (h.rD 20 (by omega) (by omega)) (fun u hu => h.rD _ (by omega) (by omega))

def sumA (A : Nat → List Nat) (l : List Nat) : Nat := (l.map (fun x => 1 + (A x).length)).sum
theorem sumA_snoc (A : Nat → List Nat) (l : List Nat) (x : Nat) : sumA A (l ++ [x]) = sumA A l + (1 + (A x).length) := by simp [sumA]
theorem sumA_le {A : Nat → List Nat} {l : List Nat} (h : ∀ x ∈ l, (A x).length ≤ 8) : sumA A l ≤ 9 * l.length := by
  induction l with
  | nil => simp [sumA]
  | cons a l ih =>
    have h1 := ih (fun x hx => h x (List.mem_cons_of_mem _ hx))
    have h2 := h a (List.mem_cons_self ..)
    simp only [sumA, List.map_cons, List.sum_cons, List.length_cons] at *
    omega

/-- How far takeIn has come. -/
def TkRel (c : Tc) (D : Nat → Option Ent) (w0 : World) (A : Nat → List Nat) (d : Nat → Int) (J l : List Nat) (Dn : Nat → Nat → Prop) (x0 B m wk : Nat) (j : Nat) (w : World) : Prop :=
  ∃ Kr vr Jr Or Ir Lr, Below c.base w0 w ∧ c.base ≤ w.heap.size ∧ St c Kr vr w ∧ Rw c Kr vr D Jr Or Ir Lr (B + 8 * j) m ∧ Inv A c.N d Jr Or Ir (fun a b => Dn a b ∨ (b = x0 ∧ a ∈ l.take j)) ∧ (∃ T, Jr = J ++ T ∧ vr.work = ((wk + sumA A T : Nat) : Int)) ∧ Lr 0 = -1 ∧ Lr 1 = 0

/-- What the graph is. -/
structure Gph (c : Tc) (D : Nat → Option Ent) (A : Nat → List Nat) (W : Nat) (d : Nat → Int) : Prop where
  n2 : 2 ≤ c.N
  n8 : c.N ≤ 8
  adj : Mat D 19 100 c.N c.va A
  prd : Mat D 20 200 c.N c.vp (preds A c.N)
  row : ∀ y, y < c.N → RowOk W y (A y)
  dst : DistOk c.N A d
  w1 : 1 ≤ W
  wN : W < c.N

theorem Gph.len {c : Tc} {D : Nat → Option Ent} {A : Nat → List Nat} {W : Nat} {d : Nat → Int} (h : Gph c D A W d) {u : Nat} (hu : u < c.N) : (A u).length ≤ 8 := by have := (h.row u hu).len; have := h.n8; omega
theorem Gph.up {c : Tc} {D : Nat → Option Ent} {A : Nat → List Nat} {W : Nat} {d : Nat → Int} (h : Gph c D A W d) {u x : Nat} (hu : u < c.N) (hx : x ∈ A u) (hd : 0 ≤ d x) : 0 ≤ d u := by
  have hlt := ((h.row u hu).lt x hx).1
  rcases h.dst.best u (by omega) hu with ⟨_, h2⟩ | ⟨z, _, h1, h2, _⟩
  · have := h2 x hx; omega
  · omega
theorem nodup_len : ∀ {l l' : List Nat}, l.Nodup → (∀ x ∈ l, x ∈ l') → l.length ≤ l'.length
  | [], _, _, _ => Nat.zero_le _
  | a :: l, l', hn, hs => by
    have h1 := List.nodup_cons.1 hn
    have h2 : ∀ x ∈ l, x ∈ l'.erase a := fun x hx => (List.mem_erase_of_ne (by rintro rfl; exact h1.1 hx)).2 (hs x (List.mem_cons_of_mem _ hx))
    have h3 := nodup_len h1.2 h2
    have h4 := List.length_erase_of_mem (hs a (List.mem_cons_self ..))
    have h5 := List.length_pos_of_mem (hs a (List.mem_cons_self ..))
    simp only [List.length_cons]
    omega
theorem Inv.len {A : Nat → List Nat} {N : Nat} {d : Nat → Int} {J : List Nat} {O I : Nat → List Nat} {Dn : Nat → Nat → Prop} (h : Inv A N d J O I Dn) {u : Nat} (hu : u ∉ J) (hu1 : 1 ≤ u) (huN : u < N) : J.length + 2 ≤ N := by
  have hnd : (u :: J).Nodup := List.nodup_cons.2 ⟨hu, h.nd⟩
  have hsub : ∀ x ∈ u :: J, x ∈ List.range' 1 (N - 1) := by
    intro x hx
    rw [List.mem_range'_1]
    rcases List.mem_cons.1 hx with rfl | hx
    · omega
    · have := h.rng x hx; omega
  have := nodup_len hnd hsub
  simp at this
  omega
theorem Inv.nd3 {A : Nat → List Nat} {N : Nat} {d : Nat → Int} {J : List Nat} {O I : Nat → List Nat} {Dn : Nat → Nat → Prop} (h : Inv A N d J O I Dn) (hN : 1 ≤ N) : (0 :: N :: J).Nodup := by
  refine List.nodup_cons.2 ⟨?_, List.nodup_cons.2 ⟨?_, h.nd⟩⟩
  · intro hm
    rcases List.mem_cons.1 hm with h1 | h1
    · omega
    · have := h.rng 0 h1; omega
  · intro hm
    have := h.rng N hm; omega

theorem take_mem {l : List Nat} {j u a : Nat} (h : l[j]? = some u) : a ∈ l.take (j + 1) ↔ a ∈ l.take j ∨ a = u := by
  rw [List.take_add_one, h]
  simp

set_option maxRecDepth 20000 in
set_option maxHeartbeats 6400000 in
theorem takeIn_calls (c : Tc) (K D : Nat → Option Ent) (v : Tv) (w : World) (A : Nat → List Nat) (W : Nat) (d : Nat → Int) (J : List Nat) (O I : Nat → List Nat) (L : Nat → Int) (Dn : Nat → Nat → Prop) (B m wk x0 : Nat) (y : Value) (h : St c K v w) (hR : Rw c K v D J O I L B m) (hb : c.base ≤ w.heap.size) (hG : Gph c D A W d) (hI : Inv A c.N d J O I Dn) (hx0 : x0 ∈ J) (hB : B ≤ 4000) (hwk : v.work = (wk : Int)) (hwk2 : wk ≤ 4000) (hk : D 23 = some ⟨3, 1, (preds A c.N x0).length, y, ints (preds A c.N x0)⟩) (hL0 : L 0 = -1) (hL1 : L 1 = 0) :
    Calls Yba.prog 50 #[.pointer (some ⟨c.C, 0, none⟩), .int .i64 (pc J x0 : Nat), y] w fun e w' => e = .returned (.tuple #[]) ∧ TkRel c D w A d J (preds A c.N x0) Dn x0 B m wk (preds A c.N x0).length w' := by
  obtain ⟨l, hl⟩ : ∃ l, l = preds A c.N x0 := ⟨_, rfl⟩
  rw [← hl] at hk ⊢
  have hll : l.length ≤ 8 := by rw [hl]; have := preds_length A c.N x0; have := hG.n8; omega
  have hlm : ∀ u ∈ l, u < c.N ∧ x0 ∈ A u := fun u hu => (preds_mem A c.N x0 u).1 (by rw [← hl]; exact hu)
  have hk0 : K 23 = some ⟨3, 1, l.length, y, ints l⟩ := (hR.rD 23 (by omega) (by omega)).trans hk
  obtain ⟨ra, rc, rfl, hra⟩ := h.sep.shape hk0
  obtain ⟨gp, cp, hplv, _⟩ := h.sep.form hR.r0 |>.2 |>.resolve_left (by rintro ⟨_, h2⟩; have : c.N = 0 := h2; have := hG.n2; omega)
  have hpl : c.pl = .slice (some ⟨gp, 0, none⟩) c.N cp := hplv
  have hN8 := hG.n8
  have hp0 := pc_lt (J := J) (.inr hx0)
  have HLM : Hid (∀ u ∈ l, u < c.N ∧ x0 ∈ A u) := hlm
  have HG : Hid (Gph c D A W d) := hG
  have H0 : TkRel c D w A d J l Dn x0 B m wk 0 w := ⟨K, v, J, O, I, L, Below.refl _ _, hb, h, hR, hI.lessen (by rintro a b (h | ⟨_, h⟩); exact h; simp at h), ⟨[], by simp, by simp [sumA, hwk]⟩, hL0, hL1⟩
  have HL : Hid (l = preds A c.N x0) := hl
  obtain ⟨p0, hp0e⟩ : ∃ p0, p0 = pc J x0 := ⟨_, rfl⟩
  rw [← hp0e] at hp0 ⊢
  have HP0 : Hid (p0 = pc J x0) := hp0e
  clear hlm hG hplv hR hI h hk0 hwk hl hp0e
  go_enter Yba.func50, Yba.ntmps50
  go_wp2_with fail
  go_loopw [11] (fun iv wr => (∃ j : Nat, j ≤ l.length ∧ iv = .int .i64 j ∧ TkRel c D w A d J l Dn x0 B m wk j wr)) (fun iv _ => l.length - (intOf iv).toNat)
  case atStart => exact ⟨0, Nat.zero_le _, rfl, H0⟩
  case round =>
    clear H0
    obtain ⟨j, hj, rfl, Kr, vr, Jr, Or, Ir, Lr, hbl, hsz, hst, hRr, hIr, ⟨T, hT, hwr⟩, hl0, hl1⟩ := hrel
    have hkr : Kr 23 = some ⟨3, 1, l.length, .slice ra l.length rc, ints l⟩ := (hRr.rD 23 (by omega) (by omega)).trans hk
    by_cases hjl : j < l.length
    · have hjl' : (j : Int) < (l.length : Int) := by omega
      obtain ⟨g, rfl⟩ := hra (by omega)
      obtain ⟨u, hu⟩ : ∃ u, l[j]? = some u := ⟨_, List.getElem?_eq_getElem hjl⟩
      obtain ⟨huN, hxu⟩ := HLM.out u (List.mem_of_getElem? hu)
      have hxlt := ((HG.out.row u huN).lt x0 hxu).1
      have cu := hst.sep.cell hkr (ints_at hu)
      have h0 := hRr.r0
      rw [hpl] at h0
      have cpu := hst.sep.cell h0 (plRow_get (plJ Jr) huN)
      have c1 : wr.cell? ⟨c.C, 1, none⟩ = some (.slice (some ⟨gp, 0, none⟩) c.N cp) := by rw [← hpl]; exact hst.hC.cell? 1
      have c5 : wr.cell? ⟨c.C, 5, none⟩ = some (.int .i64 0) := hst.hC.cell? 5
      have huN' : (u : Int) < (c.N : Int) := by omega
      have hu0' : ¬ ((u : Int) = 0) := by omega
      have hx0r : x0 ∈ Jr := by rw [hT]; exact List.mem_append_left _ hx0
      have hpc : pc Jr x0 = pc J x0 := by
        rw [hT, pc_pos (by have := hIr.rng x0 hx0r; omega), pc_pos (by have := hIr.rng x0 hx0r; omega), List.idxOf_append, if_pos hx0]
      have hJ7 := hRr.lJ
      have hJ8 : Jr.length + 2 ≤ 9 := by omega
      have HRR : Hid (Rw c Kr vr D Jr Or Ir Lr (B + 8 * j) m) := hRr
      have HIR : Hid (Inv A c.N d Jr Or Ir (fun a b => Dn a b ∨ (b = x0 ∧ a ∈ l.take j))) := hIr
      have HT : Hid (Jr = J ++ T) := hT
      have HW : Hid (vr.work = ((wk + sumA A T : Nat) : Int)) := hwr
      have HPC : Hid (pc Jr x0 = p0) := hpc.trans HP0.out.symm
      have HLR : Hid (Lr 0 = -1 ∧ Lr 1 = 0) := ⟨hl0, hl1⟩
      clear hRr hIr hT hwr hpc hl0 hl1 hkr hra
      by_cases huJ : u ∈ Jr
      · have hplu : plJ Jr u = pc Jr u + 1 := by unfold plJ; rw [if_neg (by omega), if_pos huJ, pc_pos (by omega)]
        have hpcu := pc_lt (J := Jr) (y := u) (.inr huJ)
        have hpc2 := pc_two (J := Jr) (y := u) (by omega)
        have hne : ¬ ((pc Jr u : Int) = (p0 : Int)) := by
          intro e
          have : pc Jr u = pc Jr x0 := by have := HPC.out; omega
          have := pc_inj (.inr huJ) (.inr hx0r) this
          omega
        have hp0M : p0 < Jr.length + 2 := by rw [← HPC.out]; exact pc_lt (.inr hx0r)
        have hp01 : 1 ≤ p0 := by rw [← HPC.out]; exact pc_one _ _
        obtain ⟨q, hq⟩ : ∃ q, q = pc Jr u := ⟨_, rfl⟩
        rw [hplu, ← hq] at cpu
        rw [← hq] at hpcu hpc2 hne
        have HQ : Hid (q = pc Jr u) := hq
        have hq9 : q ≤ 9 := by omega
        have hneN : ¬ (q = p0) := by omega
        have hu0N : ¬ (u = 0) := by omega
        have hqge : (0 : Int) ≤ (q : Int) := by omega
        have hb1 : ((u : Int) == 0) = false := by rw [beq_eq_false_iff_ne]; omega
        have hb2 : ((q : Int) == (p0 : Int)) = false := by rw [beq_eq_false_iff_ne]; omega
        clear hplu hq
        go_upto_region 7 with fail
        go_wp2_with (go_at_call 28; refine Calls.mono (link_calls c Kr D vr wr Jr Or Ir Lr (B + 8 * j) m q p0 hst HRR.out hsz (by omega) hpc2 hpcu hp01 hp0M (by intro z hz; obtain ⟨_, _, _, _, _, h4, rfl⟩ := HIR.out.sound _ _ hz; exact pc_lt h4) (HIR.out.nd3 (by omega)) (fun h => (HIR.out.sym _ _).2 h)) ?_; rintro e w7 ⟨rfl, hbl7, K7, v7, O7, I7, hst7, hw7, hR7, hL7⟩)
        refine ⟨⟨j + 1, by omega, by go_num, K7, v7, Jr, O7, I7, Lr, hbl.trans hbl7, by have := hbl7.size; omega, hst7, ?_, ?_, ⟨T, HT.out, hw7.trans HW.out⟩, HLR.out.1, HLR.out.2⟩, by simp [intOf]; omega⟩
        · exact hR7.mono (by omega) v7.work
        · rw [HQ.out, ← HPC.out] at hL7
          obtain ⟨h8, h9⟩ := HIR.out.link huJ hx0r hxu hL7
          refine (h8.mark huJ hx0r h9).lessen ?_
          rintro a b (h1 | ⟨rfl, h1⟩)
          · exact .inl (.inl h1)
          · rcases (take_mem hu).1 h1 with h1 | h1
            · exact .inl (.inr ⟨rfl, h1⟩)
            · exact .inr ⟨rfl, h1⟩
      · have hplu : plJ Jr u = 0 := by unfold plJ; rw [if_neg (by omega), if_neg huJ]
        rw [hplu] at cpu
        have hlen := HIR.out.len huJ (by omega) huN
        have hMA := HRR.out.adj hN8 HG.out.adj
        obtain ⟨vsA, eA, hvA⟩ := hMA.ex
        obtain ⟨ga, ca, hva, _⟩ := hst.sep.form eA |>.2 |>.resolve_left (by rintro ⟨_, h2⟩; have : c.N = 0 := h2; omega)
        have hva : c.va = .slice (some ⟨ga, 0, none⟩) c.N ca := hva
        rw [hva] at hMA
        obtain ⟨row, crow, hkrow⟩ := hMA.row hst.sep huN
        have hAl := HG.out.len huN
        have hsum : sumA A T ≤ 63 := by
          have h1 : ∀ x ∈ T, (A x).length ≤ 8 := fun x hx => HG.out.len (HIR.out.rng x (by rw [HT.out]; exact List.mem_append_right _ hx)).2
          have := sumA_le h1
          have h2 : Jr.length = J.length + T.length := by rw [HT.out]; simp
          omega
        have c2 : wr.cell? ⟨c.C, 2, none⟩ = some (.func (.func 20) #[] #[.pointer (some ⟨c.pa, 0, none⟩)]) := hst.hC.cell? 2
        have hp0p : 1 ≤ p0 := by rw [← HPC.out]; exact pc_one _ _
        have hne : ¬ ((-1 : Int) = (p0 : Int)) := by omega
        have hb1 : ((u : Int) == 0) = false := by rw [beq_eq_false_iff_ne]; omega
        have hb2 : ((-1 : Int) == (p0 : Int)) = false := by rw [beq_eq_false_iff_ne]; omega
        have hu0N : ¬ (u = 0) := by omega
        have HVA : Hid (∀ u, u < c.N → ∃ r, vsA[u]? = some r ∧ Kr (100 + u) = some ⟨3, 1, (A u).length, r, ints (A u)⟩) := hvA
        clear hvA hMA eA
        have hlt : ∀ y ∈ A u, y < u := fun y hy => ((HG.out.row u huN).lt y hy).1
        have hul : u ∉ A u := fun hm => absurd (hlt u hm) (Nat.lt_irrefl _)
        have hnd : (plsOf (plJ (Jr ++ [u])) ((Jr.length + 2 : Nat) : Int) (A u)).Nodup := by
          refine plsOf_nodup (HG.out.row u huN).nd (fun a _ b _ q h1 h2 => ?_)
          obtain ⟨h3, rfl⟩ := plOf_pc.1 h1
          obtain ⟨h4, h5⟩ := plOf_pc.1 h2
          exact pc_inj h3 h4 h5
        have HLT : Hid (∀ y ∈ A u, y < u) := hlt
        have HND : Hid (plsOf (plJ (Jr ++ [u])) ((Jr.length + 2 : Nat) : Int) (A u)).Nodup := hnd
        have HUL : Hid (u ∉ A u) := hul
        have hdu := HG.out.up huN hxu (HIR.out.dz x0 hx0r)
        clear hlt hnd hul
        go_upto_region 4 with fail
        go_wp2_with (first
          | (go_at_call 24; refine Calls.mono (readS_calls c Kr vr wr hst hsz u 1002 (100 + u) (A u) row (wk + sumA A T) HW.out (by omega) hAl hkrow (succ_calls c Kr vr wr hst ga ca u 0 row hva huN crow)) ?_; rintro e w8 ⟨xr, rfl, hbl8, hst8⟩)
          | (go_at_call 30; refine Calls.mono (join_calls c _ D _ w8 Jr (A u) Or Ir Lr (B + 8 * j) m u 1002 xr hst8 ((HRR.out.keep (K' := upd Kr 1002 ⟨3, 1, (A u).length, xr, ints (A u)⟩) (fun k hk => upd_other _ _ (by omega))).mono (Nat.le_refl _) _) (by have := hbl8.size; omega) (by omega) huN huJ (by omega) (by omega) (upd_same _ _ _) (by omega) (by omega) hAl (fun y hy => Nat.lt_trans (HLT.out y hy) huN) HUL.out HND.out) ?_; rintro e w9 ⟨rfl, hbl9, K9, v9, lo, hlo, hst9, hw9, hR9⟩))
        refine ⟨⟨j + 1, by omega, by go_num, K9, v9, Jr ++ [u], _, _, _, (hbl.trans hbl8).trans hbl9, by have := hbl8.size; have := hbl9.size; omega, hst9, hR9.mono (by omega) v9.work, ?_, ⟨T ++ [u], by rw [HT.out]; simp, ?_⟩, ?_, ?_⟩, by simp [intOf]; omega⟩
        · have hI9 := HIR.out.join huJ (by omega) huN hdu HLT.out hlo
          refine (hI9.mark (u := u) (x := x0) (by simp) (List.mem_append_left _ hx0r) ?_).lessen ?_
          · refine hI9.comp u x0 (by simp) hxu (.inr ⟨List.mem_append_left _ hx0r, .inl ?_⟩)
            rw [idx_mem hx0r, idx_new huJ]
            exact List.idxOf_lt_length_of_mem hx0r
          · rintro a b (h1 | ⟨rfl, h1⟩)
            · exact .inl (.inl h1)
            · rcases (take_mem hu).1 h1 with h1 | h1
              · exact .inl (.inr ⟨rfl, h1⟩)
              · exact .inr ⟨rfl, h1⟩
        · rw [hw9, sumA_snoc]
          show (((wk + sumA A T + 1 + (A u).length : Nat)) : Int) = _
          omega
        · rw [if_neg (by omega)]; exact HLR.out.1
        · rw [if_neg (by omega)]; exact HLR.out.2
    · have hjl' : ¬ ((j : Int) < (l.length : Int)) := by omega
      obtain rfl : j = l.length := by omega
      go_wp2_with fail
      go_end0
      exact ⟨rfl, Kr, vr, Jr, Or, Ir, Lr, hbl, hsz, hst, hRr, hIr, ⟨T, hT, hwr⟩, hl0, hl1⟩
end Go.Proofs.Ybulkuoc
