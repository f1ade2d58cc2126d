/- nearest. -/
import Derived.Test.YbulkuocPark
namespace Go.Proofs.Ybulkuoc
open Go.RowKit

theorem rowOf_cg {f g : Nat → Int} {n : Nat} (h : ∀ i, i < n → f i = g i) : rowOf f n = rowOf g n := by
  unfold rowOf
  apply List.map_congr_left
  intro x hx
  rw [h x (List.mem_range.1 hx)]
theorem Best.uniq {d : Nat → Int} {l : List Nat} {r r' : Int} (h : Best d l r) (h' : Best d l r') : r = r' := by
  rcases h with ⟨h1, h2⟩ | ⟨x, h1, h2, h3, h4⟩
  · rcases h' with ⟨h5, _⟩ | ⟨y, h5, h6, _⟩
    · omega
    · have := h2 y h5; omega
  · rcases h' with ⟨_, h6⟩ | ⟨y, h5, h6, h7, h8⟩
    · have := h6 x h1; omega
    · have := h4 y h5 h6
      have := h8 x h1 h2
      omega
theorem Best.nil (d : Nat → Int) : Best d [] (-1) := .inl ⟨rfl, by simp⟩
theorem Best.bd {d : Nat → Int} {l : List Nat} {r : Int} (h : Best d l r) {b : Int} (hb : ∀ x ∈ l, d x ≤ b) (hb0 : -2 ≤ b) : -1 ≤ r ∧ r ≤ b + 1 := by
  rcases h with ⟨h1, _⟩ | ⟨x, h1, h2, h3, _⟩
  · omega
  · have := hb x h1; omega

/-- How far nearest has come. -/
def NeRel (c : Tc) (K : Nat → Option Ent) (v : Tv) (w0 : World) (M u B gL cL gX cX : Nat) (l : List Nat) (L : Nat → Int) (i : Nat) (w : World) : Prop :=
  ∃ (r : Int) (f : Nat → Int), Below c.base w0 w ∧ c.base ≤ w.heap.size ∧ St c (upd (upd K 7 ⟨3, 1, M, .slice (some ⟨gL, 0, none⟩) M cL, rowOf (fun y => if y = u then r else L y) M⟩) 8 ⟨3, 1, M, .slice (some ⟨gX, 0, none⟩) M cX, rowOf f M⟩) v w ∧ Best L (l.take i) r ∧ ∀ p, -1 ≤ f p ∧ f p ≤ (B : Int)

set_option maxRecDepth 20000 in
set_option maxHeartbeats 6400000 in
theorem nearest_calls (c : Tc) (K D : Nat → Option Ent) (v : Tv) (w : World) (J : List Nat) (O I : Nat → List Nat) (L : Nat → Int) (B m u : Nat) (h : St c K v w) (hR : Rw c K v D J O I L B m) (hb : c.base ≤ w.heap.size) (hB : B ≤ 7000) (hu : u < J.length + 2) (huO : u ∉ O u) (hOM : ∀ y ∈ O u, y < J.length + 2) (hLb : ∀ p, -1 ≤ L p ∧ L p ≤ 8) (hbest : Best L (O u) (L u)) :
    Calls Yba.prog 55 #[.pointer (some ⟨c.C, 0, none⟩), .pointer (some ⟨c.TT, 0, none⟩), .int .i64 (u : Nat)] w fun e w' => e = .returned (.tuple #[]) ∧ Below c.base w w' ∧ ∃ K' v', St c K' v' w' ∧ v'.work = v.work ∧ v'.fresh = v.fresh ∧ Rw c K' v' D J O I L (B + 1) m := by
  have hJ7 := hR.lJ
  obtain ⟨f8, e8, b8⟩ := hR.r8
  obtain ⟨gX, cX, hXv, _⟩ := h.sep.form e8 |>.2 |>.resolve_left (by rintro ⟨_, h2⟩; simp at h2)
  have hXv : v.nxt = .slice (some ⟨gX, 0, none⟩) (J.length + 2) cX := hXv
  have e8' : K 8 = some ⟨3, 1, J.length + 2, .slice (some ⟨gX, 0, none⟩) (J.length + 2) cX, rowOf f8 (J.length + 2)⟩ := by rw [e8, hXv]
  obtain ⟨gL, cL, hLv, _⟩ := h.sep.form hR.r7 |>.2 |>.resolve_left (by rintro ⟨_, h2⟩; simp at h2)
  have hLv : v.len = .slice (some ⟨gL, 0, none⟩) (J.length + 2) cL := hLv
  have e7' : K 7 = some ⟨3, 1, J.length + 2, .slice (some ⟨gL, 0, none⟩) (J.length + 2) cL, rowOf L (J.length + 2)⟩ := by rw [hR.r7, hLv]
  obtain ⟨gI, cI, hidv, _⟩ := h.sep.form hR.r1 |>.2 |>.resolve_left (by rintro ⟨_, h2⟩; simp at h2)
  have hids : v.ids = .slice (some ⟨gI, 0, none⟩) (J.length + 2) cI := hidv
  obtain ⟨vsO, eO, hO⟩ := hR.r2.ex
  obtain ⟨gO, cO, hOv, _⟩ := h.sep.form eO |>.2 |>.resolve_left (by rintro ⟨_, h2⟩; simp at h2)
  have hOv : v.out = .slice (some ⟨gO, 0, none⟩) (J.length + 2) cO := hOv
  have eO' : K 2 = some ⟨26, 1, J.length + 2, .slice (some ⟨gO, 0, none⟩) (J.length + 2) cO, vsO⟩ := by rw [eO, hOv]
  obtain ⟨x, hvu, hku⟩ := hO u hu
  obtain ⟨xa, xc, rfl, hxg⟩ := h.sep.shape hku
  have hu' : (u : Int) < ((J.length : Int) + 2) := by omega
  have hOl := hR.bO u
  have HR : Hid (Rw c K v D J O I L B m) := hR
  have HLB : Hid (∀ p, -1 ≤ L p ∧ L p ≤ 8) := hLb
  have HOM : Hid (∀ y ∈ O u, y < J.length + 2) := hOM
  have HB8 : Hid (∀ p, -1 ≤ f8 p ∧ f8 p ≤ (B : Int)) := b8
  have HBE : Hid (Best L (O u) (L u)) := hbest
  have HUO : Hid (u ∉ O u) := huO
  clear hLb hOM b8 hbest huO hO hidv
  go_enter Yba.func55, Yba.ntmps55
  go_upto_region 1 with (go_at_call 57; refine Calls.mono (moved_calls c K v w h (J.length + 2) u HR.out.r10 hu) ?_; rintro e w1 ⟨rfl, m1, rfl⟩)
  have hst1 := h.drewN m1
  have hbl1 := below_drewN (Below.refl c.base w) m1
  have hsz1 : c.base ≤ (w.drewN m1).heap.size := hb
  generalize w.drewN m1 = w1 at hst1 hbl1 hsz1 ⊢
  have t2 : w1.cell? ⟨c.TT, 2, none⟩ = some (.slice (some ⟨gL, 0, none⟩) (J.length + 2) cL) := by rw [← hLv]; exact hst1.hTT.cell? 2
  have cl := hst1.sep.cell e7' (rowOf_get L hu)
  have fl := hst1.sep.free e7' u
  have hs2 := hst1.sep.put e7' (j := u) (.int .i64 (-1))
  rw [rowOf_set] at hs2
  have hst2 := hst1.grow hs2 (upd_ty h.ty _ _ ty3) (r := some gL) ⟨rfl, rfl, rfl, by simp, fun b _ hb => Below.heap_setCell _ _ _ _ (fun e => hb (by rw [e]))⟩ (fun b hb => ⟨7, _, e7', hb⟩)
  have hbl2 : Below c.base w (w1.setCell ⟨gL, u, none⟩ (.int .i64 (-1))) := hbl1.setCell (h.sep.lt e7' gL rfl).1 _
  have hsz2 : c.base ≤ (w1.setCell ⟨gL, u, none⟩ (.int .i64 (-1))).heap.size := by simpa using hsz1
  go_upto_region 2 with fail
  generalize w1.setCell ⟨gL, u, none⟩ (.int .i64 (-1)) = w2 at hst2 hbl2 hsz2 ⊢
  have EO : upd K 7 ⟨3, 1, J.length + 2, .slice (some ⟨gL, 0, none⟩) (J.length + 2) cL, rowOf (fun y => if y = u then -1 else L y) (J.length + 2)⟩ 2 = some ⟨26, 1, J.length + 2, .slice (some ⟨gO, 0, none⟩) (J.length + 2) cO, vsO⟩ := by rw [upd_other _ _ (by omega)]; exact eO'
  have k10 : w2.cell? ⟨c.C, 10, none⟩ = some (.slice (some ⟨gO, 0, none⟩) (J.length + 2) cO) := by rw [← hOv]; exact hst2.hC.cell? 10
  have ko := hst2.sep.cell EO hvu
  clear t2 cl fl hst1 hbl1 hsz1 hs2
  have H0 : NeRel c K v w (J.length + 2) u B gL cL gX cX (O u) L 0 w2 := by
    refine ⟨-1, f8, hbl2, hsz2, ?_, Best.nil L, HB8.out⟩
    have e : upd (upd K 7 ⟨3, 1, J.length + 2, .slice (some ⟨gL, 0, none⟩) (J.length + 2) cL, rowOf (fun y => if y = u then -1 else L y) (J.length + 2)⟩) 8 ⟨3, 1, J.length + 2, .slice (some ⟨gX, 0, none⟩) (J.length + 2) cX, rowOf f8 (J.length + 2)⟩ = upd K 7 ⟨3, 1, J.length + 2, .slice (some ⟨gL, 0, none⟩) (J.length + 2) cL, rowOf (fun y => if y = u then -1 else L y) (J.length + 2)⟩ := upd_self (by rw [upd_other _ _ (by omega)]; exact e8')
    rw [e]
    exact hst2
  clear hst2 hbl2 hsz2
  go_wp2_with fail
  go_loopw [27] (fun iv wr => ∃ i : Nat, i ≤ (O u).length ∧ iv = .int .i64 i ∧ NeRel c K v w (J.length + 2) u B gL cL gX cX (O u) L i wr) (fun iv _ => (O u).length - (intOf iv).toNat)
  case atStart => exact ⟨0, Nat.zero_le _, rfl, H0⟩
  case round =>
    clear H0 k10 ko EO
    obtain ⟨i, hi, rfl, r, f, hbl, hsz, hst, hbst, hfb⟩ := hrel
    have E7 : upd (upd K 7 ⟨3, 1, J.length + 2, .slice (some ⟨gL, 0, none⟩) (J.length + 2) cL, rowOf (fun y => if y = u then r else L y) (J.length + 2)⟩) 8 ⟨3, 1, J.length + 2, .slice (some ⟨gX, 0, none⟩) (J.length + 2) cX, rowOf f (J.length + 2)⟩ 7 = some ⟨3, 1, J.length + 2, .slice (some ⟨gL, 0, none⟩) (J.length + 2) cL, rowOf (fun y => if y = u then r else L y) (J.length + 2)⟩ := by rw [upd_other _ _ (by omega), upd_same]
    have E8 := upd_same (upd K 7 ⟨3, 1, J.length + 2, .slice (some ⟨gL, 0, none⟩) (J.length + 2) cL, rowOf (fun y => if y = u then r else L y) (J.length + 2)⟩) 8 ⟨3, 1, J.length + 2, .slice (some ⟨gX, 0, none⟩) (J.length + 2) cX, rowOf f (J.length + 2)⟩
    have t2 : wr.cell? ⟨c.TT, 2, none⟩ = some (.slice (some ⟨gL, 0, none⟩) (J.length + 2) cL) := by rw [← hLv]; exact hst.hTT.cell? 2
    have t3 : wr.cell? ⟨c.TT, 3, none⟩ = some (.slice (some ⟨gX, 0, none⟩) (J.length + 2) cX) := by rw [← hXv]; exact hst.hTT.cell? 3
    have t5 : wr.cell? ⟨c.TT, 5, none⟩ = some (.int .i64 0) := hst.hTT.cell? 5
    have cLu := hst.sep.cell E7 (rowOf_get _ hu)
    simp only [if_true] at cLu
    have fLu := hst.sep.free E7 u
    have cXu := hst.sep.cell E8 (rowOf_get f hu)
    have fXu := hst.sep.free E8 u
    have hbd := hbst.bd (b := 8) (fun x _ => (HLB.out x).2) (by omega)
    have HBS : Hid (Best L ((O u).take i) r) := hbst
    have HFB : Hid (∀ p, -1 ≤ f p ∧ f p ≤ (B : Int)) := hfb
    clear hbst hfb
    by_cases hil : i < (O u).length
    · have hil' : (i : Int) < ((O u).length : Int) := by omega
      obtain ⟨gx, rfl⟩ := hxg (by omega)
      obtain ⟨y, hy⟩ : ∃ y, (O u)[i]? = some y := ⟨_, List.getElem?_eq_getElem hil⟩
      have hyM := HOM.out y (List.mem_of_getElem? hy)
      have hyu : y ≠ u := by rintro rfl; exact HUO.out (List.mem_of_getElem? hy)
      have Ek : upd (upd K 7 ⟨3, 1, J.length + 2, .slice (some ⟨gL, 0, none⟩) (J.length + 2) cL, rowOf (fun y => if y = u then r else L y) (J.length + 2)⟩) 8 ⟨3, 1, J.length + 2, .slice (some ⟨gX, 0, none⟩) (J.length + 2) cX, rowOf f (J.length + 2)⟩ (300 + u) = some ⟨3, 1, (O u).length, .slice (some ⟨gx, 0, none⟩) (O u).length xc, ints (O u)⟩ := by rw [upd_other _ _ (by omega), upd_other _ _ (by omega)]; exact hku
      have E1 : upd (upd K 7 ⟨3, 1, J.length + 2, .slice (some ⟨gL, 0, none⟩) (J.length + 2) cL, rowOf (fun y => if y = u then r else L y) (J.length + 2)⟩) 8 ⟨3, 1, J.length + 2, .slice (some ⟨gX, 0, none⟩) (J.length + 2) cX, rowOf f (J.length + 2)⟩ 1 = some ⟨3, 1, J.length + 2, .slice (some ⟨gI, 0, none⟩) (J.length + 2) cI, ints (0 :: c.N :: J)⟩ := by rw [upd_other _ _ (by omega), upd_other _ _ (by omega), ← hids]; exact HR.out.r1
      obtain ⟨yi, hyi⟩ : ∃ yi, (0 :: c.N :: J)[y]? = some yi := ⟨_, List.getElem?_eq_getElem (by simp; omega)⟩
      have cy := hst.sep.cell Ek (ints_at hy)
      have cid := hst.sep.cell E1 (ints_at hyi)
      have cLy := hst.sep.cell E7 (rowOf_get _ hyM)
      simp only [if_neg hyu] at cLy
      have hLy := HLB.out y
      have hyM' : (y : Int) < ((J.length : Int) + 2) := by omega
      go_upto_region 5 with fail
      go_quiet ((go_at_call 52; exact Calls.quiet_of_same (cost_calls c _ v _ (hst.drewN _) gI (J.length + 2) cI y (yi : Int) hids hyM cid)))
      have hstq := hst.drewN nq
      have hbq := below_drewN hbl nq
      have hsq : c.base ≤ (wr.drewN nq).heap.size := hsz
      generalize wr.drewN nq = wq at hstq hbq hsq ⊢
      clear t2 t3 t5 cLu fLu cXu fXu cy cid cLy hst hbl hsz
      have t2 : wq.cell? ⟨c.TT, 2, none⟩ = some (.slice (some ⟨gL, 0, none⟩) (J.length + 2) cL) := by rw [← hLv]; exact hstq.hTT.cell? 2
      have t3 : wq.cell? ⟨c.TT, 3, none⟩ = some (.slice (some ⟨gX, 0, none⟩) (J.length + 2) cX) := by rw [← hXv]; exact hstq.hTT.cell? 3
      have cLu := hstq.sep.cell E7 (rowOf_get _ hu)
      simp only [if_true] at cLu
      have fLu := hstq.sep.free E7 u
      have cXu := hstq.sep.cell E8 (rowOf_get f hu)
      have fXu := hstq.sep.free E8 u
      have cLy := hstq.sep.cell E7 (rowOf_get _ hyM)
      simp only [if_neg hyu] at cLy
      have hgLb := (hstq.sep.lt E7 gL rfl).1
      have hgXb := (hstq.sep.lt E8 gX rfl).1
      have hgLX : gX ≠ gL := fun e => hstq.sep.sep 7 8 _ _ (by omega) E7 E8 gL rfl (by rw [← e]; rfl)
      have hgLX' : gL ≠ gX := Ne.symm hgLX
      have hsA := hstq.sep.put E7 (j := u) (.int .i64 (L y + 1))
      rw [rowOf_set, upd_comm _ _ _ (by omega), upd_upd] at hsA
      have eqA : rowOf (fun z => if z = u then L y + 1 else (fun y => if y = u then r else L y) z) (J.length + 2) = rowOf (fun y' => if y' = u then L y + 1 else L y') (J.length + 2) := rowOf_cg (fun z _ => by by_cases hz : z = u <;> simp [hz])
      rw [eqA] at hsA
      have hstA := hstq.grow hsA (upd_ty (upd_ty h.ty _ _ ty3) _ _ ty3) (r := some gL) ⟨rfl, rfl, rfl, by simp, fun b _ hb => Below.heap_setCell _ _ _ _ (fun e => hb (by rw [e]))⟩ (fun b hb => ⟨7, _, E7, hb⟩)
      have hsB := hstA.sep.put (upd_same _ _ _) (j := u) (.int .i64 (i : Int))
      rw [rowOf_set, upd_upd] at hsB
      have hstB := hstA.grow hsB (upd_ty (upd_ty h.ty _ _ ty3) _ _ ty3) (r := some gX) ⟨rfl, rfl, rfl, by simp, fun b _ hb => Below.heap_setCell _ _ _ _ (fun e => hb (by rw [e]))⟩ (fun b hb => ⟨8, _, upd_same _ _ _, hb⟩)
      clear hsA hsB eqA hstA
      by_cases hy0 : 0 ≤ L y
      · by_cases hr0 : r < 0
        · have HTK : Hid (r < 0 ∨ L y + 1 < r) := .inl hr0
          go_upto_region 7 with fail
          go_region
          all_goals
            go_wp2_with fail
            refine ⟨⟨i + 1, by omega, by go_num, L y + 1, fun z => if z = u then (i : Int) else f z, ((hbq.setCell hgLb _).setCell hgXb _).drew, by simpa using hsq, hstB.drew, ?_, fun z => ?_⟩, by simp [intOf]; omega⟩
            · rw [List.take_add_one, hy]
              exact HBS.out.take hy0 HTK.out
            · have := HFB.out z
              show -1 ≤ (if z = u then (i : Int) else f z) ∧ (if z = u then (i : Int) else f z) ≤ (B : Int)
              split
              · omega
              · omega
        · have hr0' : ¬ (r < 0) := hr0
          by_cases hlt : L y + 1 < r
          · have HTK : Hid (r < 0 ∨ L y + 1 < r) := .inr hlt
            go_upto_region 7 with fail
            go_region
            all_goals
              go_wp2_with fail
              refine ⟨⟨i + 1, by omega, by go_num, L y + 1, fun z => if z = u then (i : Int) else f z, ((hbq.setCell hgLb _).setCell hgXb _).drew, by simpa using hsq, hstB.drew, ?_, fun z => ?_⟩, by simp [intOf]; omega⟩
              · rw [List.take_add_one, hy]
                exact HBS.out.take hy0 HTK.out
              · have := HFB.out z
                show -1 ≤ (if z = u then (i : Int) else f z) ∧ (if z = u then (i : Int) else f z) ≤ (B : Int)
                split
                · omega
                · omega
          · have hlt' : ¬ (L y + 1 < r) := hlt
            go_wp2_with fail
            refine ⟨⟨i + 1, by omega, by go_num, r, f, hbq, hsq, hstq, ?_, HFB.out⟩, by simp [intOf]; omega⟩
            rw [List.take_add_one, hy]
            exact HBS.out.keep (by omega)
      · have hy0' : L y < 0 := by omega
        go_wp2_with fail
        refine ⟨⟨i + 1, by omega, by go_num, r, f, hbq, hsq, hstq, ?_, HFB.out⟩, by simp [intOf]; omega⟩
        rw [List.take_add_one, hy]
        exact HBS.out.keep (by omega)
    · have hil' : ¬ ((i : Int) < ((O u).length : Int)) := by omega
      obtain rfl : i = (O u).length := by omega
      have hrL : r = L u := (by rw [List.take_length] at HBS; exact HBS.out : Best L (O u) r).uniq HBE.out
      subst hrL
      have hLe : rowOf (fun y => if y = u then L u else L y) (J.length + 2) = rowOf L (J.length + 2) := rowOf_cg (fun z _ => by by_cases hz : z = u <;> simp [hz])
      rw [hLe] at hst E7 E8
      have hRw : Rw c (upd (upd K 7 ⟨3, 1, J.length + 2, .slice (some ⟨gL, 0, none⟩) (J.length + 2) cL, rowOf L (J.length + 2)⟩) 8 ⟨3, 1, J.length + 2, .slice (some ⟨gX, 0, none⟩) (J.length + 2) cX, rowOf f (J.length + 2)⟩) v D J O I L B m := by
        have hR := HR.out
        refine hR.turn (fun k h1 h2 h3 h4 h5 h6 => by rw [upd_other _ _ h4, upd_other _ _ h3]) rfl (Nat.le_refl _) (by rw [upd_other _ _ (by omega), upd_other _ _ (by omega)]; exact hR.r6) (by rw [E7]; exact congrArg _ (by rw [← hLv])) ⟨f, by rw [E8]; exact congrArg _ (by rw [← hXv]), HFB.out⟩ (by rw [upd_other _ _ (by omega), upd_other _ _ (by omega)]; exact hR.r14) (by rw [upd_other _ _ (by omega), upd_other _ _ (by omega)]; exact hR.r18)
      have hLu := HLB.out u
      go_upto_region 9 with fail
      go_quiet (fail)
      have hstq := hst.drewN nq
      have hbq := below_drewN hbl nq
      have hsq : c.base ≤ (wr.drewN nq).heap.size := hsz
      have HRW : Hid (Rw c (upd (upd K 7 ⟨3, 1, J.length + 2, .slice (some ⟨gL, 0, none⟩) (J.length + 2) cL, rowOf L (J.length + 2)⟩) 8 ⟨3, 1, J.length + 2, .slice (some ⟨gX, 0, none⟩) (J.length + 2) cX, rowOf f (J.length + 2)⟩) v D J O I L B m) := hRw
      clear hRw
      generalize wr.drewN nq = wq at hstq hbq hsq ⊢
      by_cases hpos : 0 < L u
      · go_wp2_with (go_at_call 73; refine Calls.mono (park_calls c _ D v wq J O I L B m u hstq HRW.out hsq (by omega) hu (by omega)) ?_; rintro e w9 ⟨rfl, hbl9, K9, v9, hst9, hw9, hf9, hR9⟩)
        go_end0
        exact ⟨rfl, hbq.trans hbl9, K9, v9, hst9, hw9, hf9, hR9⟩
      · have hpos' : ¬ (0 < L u) := hpos
        go_wp2_with fail
        go_end0
        exact ⟨rfl, hbq, _, _, hstq, rfl, rfl, HRW.out.mono (by omega) v.work⟩
end Go.Proofs.Ybulkuoc
