/- spread. -/
import Derived.Test.YbulkuocSpB
import Derived.Test.YbulkuocGhost3
import Derived.Test.YbulkuocPlainA
namespace Go.Proofs.Ybulkuoc
open Go.RowKit

/-- A row among those that stay. -/
theorem Rw.nameD {c : Tc} {K : Nat → Option Ent} {v : Tv} {D : Nat → Option Ent} {J : List Nat} {O I : Nat → List Nat} {L : Nat → Int} {B m : Nat} (h : Rw c K v D J O I L B m) (n : Nat) (e : Ent) (h1 : 19 ≤ n) (h2 : n < 300) : Rw c (upd K n e) v (upd D n e) J O I L B m := by
  have hl := h.lJ
  have hk : ∀ k, k < 19 → upd K n e k = K k := fun k hk => upd_other _ _ (by omega)
  have hk2 : ∀ k, 300 ≤ k → upd K n e k = K k := fun k hk => upd_other _ _ (by omega)
  refine ⟨?_, ?_, h.r2.keep (hk 2 (by omega)) (fun u hu => hk2 _ (by omega)), h.r3.keep (hk 3 (by omega)) (fun u hu => hk2 _ (by omega)), ?_, ?_, ?_, ?_, ?_, ?_, ?_, ?_, ?_, ?_, ?_, ?_, ?_, h.bO, h.bI, h.lJ, h.st⟩
  · rw [hk 0 (by omega)]; exact h.r0
  · rw [hk 1 (by omega)]; exact h.r1
  · rw [hk 4 (by omega)]; exact h.r4
  · rw [hk 5 (by omega)]; exact h.r5
  · rw [hk 6 (by omega)]; exact h.r6
  · rw [hk 7 (by omega)]; exact h.r7
  · rw [hk 8 (by omega)]; exact h.r8
  · rw [hk 9 (by omega)]; exact h.r9
  · rw [hk 10 (by omega)]; exact h.r10
  · rw [hk 11 (by omega)]; exact h.r11
  · rw [hk 12 (by omega)]; exact h.r12
  · rw [hk 13 (by omega)]; exact h.r13
  · rw [hk 14 (by omega)]; exact h.r14
  · rw [hk 18 (by omega)]; exact h.r18
  · intro k a1 a2
    by_cases hkn : k = n
    · subst hkn; rw [upd_same, upd_same]
    · rw [upd_other _ _ hkn, upd_other _ _ hkn]; exact h.rD k a1 a2
theorem Gph.agree {c : Tc} {D D' : Nat → Option Ent} {A : Nat → List Nat} {W : Nat} {d : Nat → Int} (h : Gph c D A W d) (ha : ∀ n, 19 ≤ n → n < 300 → n ≠ 23 → n ≠ 24 → D' n = D n) : Gph c D' A W d := by
  have hn := h.n8
  exact ⟨h.n2, h.n8, h.adj.keep (ha 19 (by omega) (by omega) (by omega) (by omega)) (fun u hu => ha _ (by omega) (by omega) (by omega) (by omega)), h.prd.keep (ha 20 (by omega) (by omega) (by omega) (by omega)) (fun u hu => ha _ (by omega) (by omega) (by omega) (by omega)), h.row, h.dst, h.w1, h.wN⟩

theorem sum_le' {f : Nat → Nat} {b : Nat} : ∀ (l : List Nat), (∀ x ∈ l, f x ≤ b) → (l.map f).sum ≤ b * l.length
  | [], _ => by simp
  | x :: l, h => by
    have h1 := h x (by simp)
    have h2 := sum_le' l (fun y hy => h y (by simp [hy]))
    simp only [List.map_cons, List.sum_cons, List.length_cons, Nat.mul_add]
    omega
theorem workTo_le {c : Tc} {D : Nat → Option Ent} {A : Nat → List Nat} {W : Nat} {d : Nat → Int} (h : Gph c D A W d) : workTo A (preds A c.N) d W c.N ≤ 200 := by
  have hn := h.n8
  have hW := h.len h.wN
  have := sum_le' (f := term A (preds A c.N) d W) (b := 18) (List.range' 1 (c.N - 1)) (by
    intro x hx
    simp only [List.mem_range'_1] at hx
    have h1 := h.len (u := x) (by omega)
    have h2 := preds_length A c.N x
    unfold term
    split
    · split <;> omega
    · omega)
  simp only [List.length_range'] at this
  unfold workTo
  omega

/-- How far the first loop has come. -/
def Sa (c : Tc) (D : Nat → Option Ent) (A : Nat → List Nat) (W : Nat) (d : Nat → Int) (w0 : World) (bx : Nat) (K : Nat → Option Ent) (v : Tv) (D' : Nat → Option Ent) (J : List Nat) (O I : Nat → List Nat) (L : Nat → Int) (i : Nat) (w : World) : Prop :=
  W ∈ J ∧ Below c.base w0 w ∧ c.base ≤ w.heap.size ∧ St c K v w ∧ Rw c K v D' J O I L (100 + 64 * i) 0 ∧ Inv A c.N d J O I (fun _ x => x ∈ J.take i) ∧ v.work = ((workJ A (preds A c.N) W J i : Nat) : Int) ∧ L 0 = -1 ∧ L 1 = 0 ∧ D' 24 = some ⟨28, 1, 1, .slice (some ⟨bx, 0, none⟩) 1 1, [.pointer (some ⟨c.C, 0, none⟩)]⟩ ∧ i ≤ J.length ∧ ∀ n, 19 ≤ n → n < 300 → n ≠ 23 → n ≠ 24 → D' n = D n
def SaRel (c : Tc) (D : Nat → Option Ent) (A : Nat → List Nat) (W : Nat) (d : Nat → Int) (w0 : World) (bx i : Nat) (w : World) : Prop := ∃ K v D' J O I L, Sa c D A W d w0 bx K v D' J O I L i w
def SaEnd (c : Tc) (D : Nat → Option Ent) (A : Nat → List Nat) (W : Nat) (d : Nat → Int) (w0 : World) (bx : Nat) (w : World) : Prop := ∃ K v D' J O I L, Sa c D A W d w0 bx K v D' J O I L J.length w
/-- What spread leaves. -/
def SpPost (c : Tc) (D : Nat → Option Ent) (A : Nat → List Nat) (W : Nat) (d : Nat → Int) (bud : Int) (w0 : World) (e : Ending) (w : World) : Prop :=
  ∃ K v D' J O I L B m, Below c.base w0 w ∧ St c K v w ∧ Rw c K v D' J O I L B m ∧ (∀ n, 19 ≤ n → n < 300 → n ≠ 23 → n ≠ 24 → D' n = D n) ∧
    ((e = .returned (.bool false) ∧ bud < ((workTo A (preds A c.N) d W c.N : Nat) : Int)) ∨ (e = .returned (.bool true) ∧ ((workTo A (preds A c.N) d W c.N : Nat) : Int) ≤ bud ∧ v.work = ((workTo A (preds A c.N) d W c.N : Nat) : Int) ∧ J.Nodup ∧ (∀ u, u ∈ J ↔ 1 ≤ u ∧ u < c.N ∧ 0 ≤ d u) ∧ ∀ u ∈ J, L (pc J u) = d u))

set_option maxRecDepth 40000 in
set_option maxHeartbeats 12800000 in
theorem spread_calls (c : Tc) (K D : Nat → Option Ent) (v : Tv) (w : World) (A : Nat → List Nat) (W : Nat) (d : Nat → Int) (O I : Nat → List Nat) (L : Nat → Int) (bud : Int) (h : St c K v w) (hR : Rw c K v D [W] O I L 100 0) (hb : c.base ≤ w.heap.size) (hG : Gph c D A W d) (hI : Inv A c.N d [W] O I (fun _ _ => False)) (hwk : v.work = ((1 + (A W).length : Nat) : Int)) (hL0 : L 0 = -1) (hL1 : L 1 = 0) :
    Calls Yba.prog 31 #[.pointer (some ⟨c.C, 0, none⟩), .int .i64 bud] w fun e w' => SpPost c D A W d bud w e w' := by
  have HG : Hid (Gph c D A W d) := hG
  have H0 : SaRel c D A W d w w.heap.size 0 (w.alloc (.cells #[.pointer (some ⟨c.C, 0, none⟩)] 28)) := by
    have hs := h.sep.row 28 24 1 #[.pointer (some ⟨c.C, 0, none⟩)] rfl hb (by unfold maxLen; omega) _ rfl
    have ty28 : TyOk 28 := by unfold TyOk; decide
    refine ⟨_, v, _, [W], O, I, L, by simp, (Below.refl _ _).alloc hb _, by simp; omega, h.grow hs (upd_ty h.ty _ _ ty28) (r := none) ⟨rfl, rfl, rfl, by simp, fun b hb' _ => Below.heap_alloc _ _ _ hb'⟩ (fun b e => by cases e), hR.nameD 24 _ (by omega) (by omega), hI.lessen (by simp), by rw [hwk]; simp [workJ], hL0, hL1, upd_same _ _ _, by simp, fun n _ _ _ h4 => upd_other _ _ h4⟩
  have hbxl : w.heap.size < (w.alloc (.cells #[.pointer (some ⟨c.C, 0, none⟩)] 28)).heap.size := by simp
  clear h hR hI hwk hL0 hL1 hG
  obtain ⟨bx, hbx⟩ : ∃ bx, bx = w.heap.size := ⟨_, rfl⟩
  rw [← hbx] at H0
  have HH0 : Hid (SaRel c D A W d w bx 0 (w.alloc (.cells #[.pointer (some ⟨c.C, 0, none⟩)] 28))) := H0
  clear H0
  go_enter Yba.func31, Yba.ntmps31
  refine wp_seq_k ?_
  intro Ka ha
  go_cut [2, 4] from 3 to 3 (fun xv fv wc => xv = .pointer (some ⟨bx, 0, none⟩) ∧ fv = .bool false ∧ SaRel c D A W d w bx 0 wc)
  case first =>
    go_wp2_with fail
    go_meet
    exact ⟨by rw [hbx], rfl, HH0.out⟩
  case rest =>
    obtain ⟨rfl, rfl, H0⟩ := hcut
    clear HH0 hbxl hbx
    apply ha
    refine wp_seq_k ?_
    intro Kb hb'
    try dsimp only
    go_cut [4, 5] from 34 to 76 (fun fv _ wc => fv = .bool false ∧ SaEnd c D A W d w bx wc)
    case first =>
      go_wp2_with fail
      go_loopw [4, 5] (fun fv iv wr => fv = .bool false ∧ ∃ i : Nat, iv = .int .i64 i ∧ SaRel c D A W d w bx i wr) (fun _ iv _ => 8 - (intOf iv).toNat)
      case atStart => exact ⟨rfl, 0, rfl, H0⟩
      case round =>
        clear H0
        obtain ⟨rfl, i, rfl, K1, v1, D1, J, O1, I1, L1, hW, q1, q2, q3, q4, q5, q6, q7, q8, q9, q10, q11⟩ := hrel
        have e24 : K1 24 = some ⟨28, 1, 1, .slice (some ⟨bx, 0, none⟩) 1 1, [.pointer (some ⟨c.C, 0, none⟩)]⟩ := (q4.rD 24 (by omega) (by omega)).trans q9
        have c0 := q3.sep.cell e24 (j := 0) rfl
        obtain ⟨fa, fc, hfv, hfg⟩ := q3.sep.shape q4.r12
        have hfv : v1.fresh = .slice fa J.length fc := hfv
        have c31 : wr.cell? ⟨c.C, 31, none⟩ = some (.slice fa J.length fc) := by rw [← hfv]; exact q3.hC.cell? 31
        have c30 : wr.cell? ⟨c.C, 30, none⟩ = some (.int .i64 ((workJ A (preds A c.N) W J i : Nat) : Int)) := by rw [← q6]; exact q3.hC.cell? 30
        have hJ7 := q4.lJ
        have hwle := workJ_le (W := W) (preds A c.N) q5 i
        obtain ⟨wk, hwke⟩ : ∃ wk, wk = workJ A (preds A c.N) W J i := ⟨_, rfl⟩
        rw [← hwke] at c30 hwle
        have HQ4 : Hid (Rw c K1 v1 D1 J O1 I1 L1 (100 + 64 * i) 0) := q4
        have HQ5 : Hid (Inv A c.N d J O1 I1 (fun _ x => x ∈ J.take i)) := q5
        have HQ6 : Hid (v1.work = (wk : Int)) := by rw [hwke]; exact q6
        have HWK : Hid (wk = workJ A (preds A c.N) W J i) := hwke
        have HQ11 : Hid (∀ n, 19 ≤ n → n < 300 → n ≠ 23 → n ≠ 24 → D1 n = D n) := q11
        have HQ9 : Hid (D1 24 = some ⟨28, 1, 1, .slice (some ⟨bx, 0, none⟩) 1 1, [.pointer (some ⟨c.C, 0, none⟩)]⟩) := q9
        clear q4 q5 q6 q11 hwke q9
        by_cases hil : i < J.length
        · have hil' : (i : Int) < (J.length : Int) := by omega
          by_cases hbud : bud < (wk : Int)
          · go_wp2_with fail
            refine bodyPost_ret (v := .bool false) (by simp [results, Yba.results31, go_sem]) rfl ?_
            exact ⟨K1, v1, D1, J, O1, I1, L1, _, 0, q1, q3, HQ4.out, HQ11.out, .inl ⟨rfl, by omega⟩⟩
          · have hbud' : ¬ (bud < (wk : Int)) := hbud
            go_upto_region 6 with fail
            obtain ⟨gf, rfl⟩ := hfg (by omega)
            obtain ⟨x0, hx0⟩ : ∃ x0, J[i]? = some x0 := ⟨_, List.getElem?_eq_getElem hil⟩
            have hx0J := List.mem_of_getElem? hx0
            obtain ⟨hx01, hx0N⟩ := HQ5.out.rng x0 hx0J
            have hpc : pc J x0 = i + 2 := by
              obtain ⟨h1, h2⟩ := List.getElem?_eq_some_iff.1 hx0
              rw [pc_pos (by omega), ← h2, HQ5.out.nd.idxOf_getElem]
            have hii : ((i : Int) + 2) < ((J.length : Int) + 2) := by omega
            have hN8 := HG.out.n8
            have hGD := HG.out.agree HQ11.out
            obtain ⟨gI, cI, hidv, _⟩ := q3.sep.form HQ4.out.r1 |>.2 |>.resolve_left (by rintro ⟨_, h2⟩; simp at h2)
            have hids : v1.ids = .slice (some ⟨gI, 0, none⟩) (J.length + 2) cI := hidv
            have e1 : K1 1 = some ⟨3, 1, J.length + 2, .slice (some ⟨gI, 0, none⟩) (J.length + 2) cI, ints (0 :: c.N :: J)⟩ := by rw [HQ4.out.r1, hids]
            have e12 : K1 12 = some ⟨3, 1, J.length, .slice (some ⟨gf, 0, none⟩) J.length fc, ints (List.range' 2 J.length)⟩ := by rw [HQ4.out.r12, hfv]
            have hMP := HQ4.out.prd hN8 hGD.prd
            obtain ⟨vsP, eP, hvP⟩ := hMP.ex
            obtain ⟨gP, cP, hvp, _⟩ := q3.sep.form eP |>.2 |>.resolve_left (by rintro ⟨_, h2⟩; have : c.N = 0 := h2; omega)
            have hvp : c.vp = .slice (some ⟨gP, 0, none⟩) c.N cP := hvp
            rw [hvp] at hMP
            obtain ⟨row, crow, hkrow⟩ := hMP.row q3.sep hx0N
            have hPl : (preds A c.N x0).length ≤ 8 := by have := preds_length A c.N x0; omega
            obtain ⟨P, hPe⟩ : ∃ P, P = preds A c.N x0 := ⟨_, rfl⟩
            rw [← hPe] at hkrow hPl
            have hwk9 : wk ≤ 3900 := by have := workTo_le HG.out; omega
            have hi0 : (0 : Int) ≤ (i : Int) + 2 := by omega
            have htn : ((i : Int) + 2).toNat = i + 2 := by omega
            have hcell : ∀ (K' : Nat → Option Ent) (v' : Tv) (w' : World), St c K' v' w' → v'.fresh = v1.fresh → v'.ids = v1.ids → K' 24 = K1 24 → K' 12 = K1 12 → K' 1 = K1 1 → w'.cell? ⟨bx, 0, none⟩ = some (.pointer (some ⟨c.C, 0, none⟩)) ∧ w'.cell? ⟨c.C, 31, none⟩ = some (.slice (some ⟨gf, 0, none⟩) J.length fc) ∧ w'.cell? ⟨gf, i, none⟩ = some (.int .i64 ((i : Int) + 2)) ∧ w'.cell? ⟨c.C, 3, none⟩ = some (.func (.func 21) #[] #[.pointer (some ⟨c.pb, 0, none⟩)]) ∧ w'.cell? ⟨c.C, 6, none⟩ = some (.slice (some ⟨gI, 0, none⟩) (J.length + 2) cI) ∧ w'.cell? ⟨gI, i + 2, none⟩ = some (.int .i64 (x0 : Int)) := by
              intro K' v' w' hs a1 a2 a3 a4 a5
              have b1 : w'.cell? ⟨c.C, 31, none⟩ = some v'.fresh := hs.hC.cell? 31
              have b2 : w'.cell? ⟨c.C, 6, none⟩ = some v'.ids := hs.hC.cell? 6
              rw [a1, hfv] at b1
              rw [a2, hids] at b2
              refine ⟨hs.sep.cell (a3.trans e24) (j := 0) rfl, b1, ?_, hs.hC.cell? 3, b2, ?_⟩
              · have := hs.sep.cell (a4.trans e12) (ints_at (v := i + 2) (by rw [List.getElem?_range' hil]; simp; omega))
                rw [this]
                exact congrArg _ (congrArg _ (by omega))
              · exact hs.sep.cell (a5.trans e1) (ints_at (l := 0 :: c.N :: J) (by simpa using hx0))
            obtain ⟨Gs, hGs0⟩ : ∃ Gs : Nat × Value → World → Prop, Gs = fun s w => (s.1 = 0 ∧ ∃ n, w = wr.drewN n) ∨ (s.1 = 1 ∧ Below c.base wr w ∧ c.base ≤ w.heap.size ∧ St c (upd K1 23 ⟨3, 1, P.length, s.2, ints P⟩) { v1 with work := ((wk + 1 + P.length : Nat) : Int) } w) ∨ (s.1 = 2 ∧ ∃ wm, Below c.base wr wm ∧ TkRel c (upd D1 23 ⟨3, 1, P.length, s.2, ints P⟩) wm A d J P (fun _ x => x ∈ J.take i) x0 (100 + 64 * i) 0 (wk + 1 + P.length) P.length w) := ⟨_, rfl⟩
            have hcells : ∀ s w, Gs s w → s.1 ≤ 1 → w.cell? ⟨bx, 0, none⟩ = some (.pointer (some ⟨c.C, 0, none⟩)) ∧ w.cell? ⟨c.C, 31, none⟩ = some (.slice (some ⟨gf, 0, none⟩) J.length fc) ∧ w.cell? ⟨gf, i, none⟩ = some (.int .i64 ((i : Int) + 2)) ∧ w.cell? ⟨c.C, 3, none⟩ = some (.func (.func 21) #[] #[.pointer (some ⟨c.pb, 0, none⟩)]) ∧ w.cell? ⟨c.C, 6, none⟩ = some (.slice (some ⟨gI, 0, none⟩) (J.length + 2) cI) ∧ w.cell? ⟨gI, i + 2, none⟩ = some (.int .i64 (x0 : Int)) := by
              intro s w' hg hs
              rw [hGs0] at hg
              rcases hg with ⟨_, n, rfl⟩ | ⟨_, _, _, hst⟩ | ⟨h2, _⟩
              · exact hcell K1 v1 _ (q3.drewN n) rfl rfl rfl rfl rfl
              · exact hcell _ _ _ hst rfl rfl (upd_other _ _ (by omega)) (upd_other _ _ (by omega)) (upd_other _ _ (by omega))
              · omega
            refine wp_region_ghost3 (by kernel_rfl) (by kernel_rfl) (S := Nat × Value) (fun i => ([some 49, some 50, some 51, some 52, some 53, some 54, some 55, some 56, some 57, some 58, some 59, some 60, some 61, some 62, some 63, some 64, some 65, some 66, some 67, some 68, some 69, some 70, some 71, some 72, some 73, some 74, some 75, some 76] : List (Option Nat)).getD i none) 49 76 Gs (fun k s x => (∀ z, ([some (.pointer (some ⟨c.C, 0, none⟩)), some (.pointer (some ⟨c.C, 0, none⟩)), some (.pointer (some ⟨c.C, 0, none⟩)), some (.pointer (some ⟨c.C, 31, none⟩)), some (.slice (some ⟨gf, 0, none⟩) J.length fc), some (.int .i64 (i : Int)), some (.pointer (some ⟨gf, i, none⟩)), some (.int .i64 ((i : Int) + 2)), some (.pointer (some ⟨c.C, 0, none⟩)), some (.pointer (some ⟨c.C, 0, none⟩)), some (.pointer (some ⟨c.C, 0, none⟩)), some (.pointer (some ⟨c.C, 3, none⟩)), some (.func (.func 21) #[] #[.pointer (some ⟨c.pb, 0, none⟩)]), some (.pointer (some ⟨c.C, 0, none⟩)), some (.pointer (some ⟨c.C, 0, none⟩)), some (.pointer (some ⟨c.C, 6, none⟩)), some (.slice (some ⟨gI, 0, none⟩) (J.length + 2) cI), some (.pointer (some ⟨c.C, 0, none⟩)), some (.pointer (some ⟨c.C, 0, none⟩)), some (.pointer (some ⟨c.C, 31, none⟩)), some (.slice (some ⟨gf, 0, none⟩) J.length fc), some (.int .i64 (i : Int)), some (.pointer (some ⟨gf, i, none⟩)), some (.int .i64 ((i : Int) + 2)), some (.pointer (some ⟨gI, i + 2, none⟩)), some (.int .i64 (x0 : Int)), none, none] : List (Option Value)).getD k none = some z → x = z) ∧ (k = 26 → 1 ≤ s.1 ∧ x = s.2) ∧ (k = 27 → s.1 = 2)) (fun k s => (k < 27 → s.1 ≤ 1) ∧ (k = 26 → s.1 = 0) ∧ (k = 27 → s.1 ≤ 1)) (0, undef) (by rw [hGs0]; exact .inl ⟨rfl, 1, rfl⟩) (fun _ _ => ⟨fun _ => Nat.zero_le _, fun _ => rfl, fun _ => Nat.zero_le _⟩) ?hslot ?hinj ?hstep ?hend
            case hslot => intro i s hi; have := allL (p := fun s => decide (49 ≤ s ∧ s ≤ 76)) (by decide) hi; simp at this; exact ⟨this.1, this.2, by simp; omega⟩
            case hinj => intro i j _ _ hij s h1 h2; exact hij (uniqL (by decide) h1 h2)
            case hstep =>
              intro k o ho
              match k, ho with
              | 0, ho =>
                simp at ho; subst ho; refine ⟨rfl, rfl, ?_⟩; intro Up s w a hcl hups hGs hH hF haf Kc hK
                have hP : Pre (fun k => ([some (.pointer (some ⟨c.C, 0, none⟩)), some (.pointer (some ⟨c.C, 0, none⟩)), some (.pointer (some ⟨c.C, 0, none⟩)), some (.pointer (some ⟨c.C, 31, none⟩)), some (.slice (some ⟨gf, 0, none⟩) J.length fc), some (.int .i64 (i : Int)), some (.pointer (some ⟨gf, i, none⟩)), some (.int .i64 ((i : Int) + 2)), some (.pointer (some ⟨c.C, 0, none⟩)), some (.pointer (some ⟨c.C, 0, none⟩)), some (.pointer (some ⟨c.C, 0, none⟩)), some (.pointer (some ⟨c.C, 3, none⟩)), some (.func (.func 21) #[] #[.pointer (some ⟨c.pb, 0, none⟩)]), some (.pointer (some ⟨c.C, 0, none⟩)), some (.pointer (some ⟨c.C, 0, none⟩)), some (.pointer (some ⟨c.C, 6, none⟩)), some (.slice (some ⟨gI, 0, none⟩) (J.length + 2) cI), some (.pointer (some ⟨c.C, 0, none⟩)), some (.pointer (some ⟨c.C, 0, none⟩)), some (.pointer (some ⟨c.C, 31, none⟩)), some (.slice (some ⟨gf, 0, none⟩) J.length fc), some (.int .i64 (i : Int)), some (.pointer (some ⟨gf, i, none⟩)), some (.int .i64 ((i : Int) + 2)), some (.pointer (some ⟨gI, i + 2, none⟩)), some (.int .i64 (x0 : Int)), none, none] : List (Option Value)).getD k none) (fun i => ([some 49, some 50, some 51, some 52, some 53, some 54, some 55, some 56, some 57, some 58, some 59, some 60, some 61, some 62, some 63, some 64, some 65, some 66, some 67, some 68, some 69, some 70, some 71, some 72, some 73, some 74, some 75, some 76] : List (Option Nat)).getD i none) _ a := fun e he hb z t hz ht => by obtain ⟨y, h1, h2⟩ := haf e he hb; rw [h1 t ht, h2.1 z hz]
                refine wpOp_val rfl rfl rfl (by have hx : a.tmps[2]? = some (.pointer (some ⟨bx, 0, none⟩)) := (hF.2.2 2 (.inl (by decide))).trans rfl; have hc := (hcells s w hGs (hH.1 (by decide))).1; simp [execOp, hx, hc, go_sem]) (hK _ _ s hGs ⟨fun z hz => Option.some.inj hz, fun h => absurd h (by decide), fun h => absurd h (by decide)⟩ (fun _ _ _ h => h) (fun _ _ _ h => h))
              | 1, ho =>
                simp at ho; subst ho; refine ⟨rfl, rfl, ?_⟩; intro Up s w a hcl hups hGs hH hF haf Kc hK
                have hP : Pre (fun k => ([some (.pointer (some ⟨c.C, 0, none⟩)), some (.pointer (some ⟨c.C, 0, none⟩)), some (.pointer (some ⟨c.C, 0, none⟩)), some (.pointer (some ⟨c.C, 31, none⟩)), some (.slice (some ⟨gf, 0, none⟩) J.length fc), some (.int .i64 (i : Int)), some (.pointer (some ⟨gf, i, none⟩)), some (.int .i64 ((i : Int) + 2)), some (.pointer (some ⟨c.C, 0, none⟩)), some (.pointer (some ⟨c.C, 0, none⟩)), some (.pointer (some ⟨c.C, 0, none⟩)), some (.pointer (some ⟨c.C, 3, none⟩)), some (.func (.func 21) #[] #[.pointer (some ⟨c.pb, 0, none⟩)]), some (.pointer (some ⟨c.C, 0, none⟩)), some (.pointer (some ⟨c.C, 0, none⟩)), some (.pointer (some ⟨c.C, 6, none⟩)), some (.slice (some ⟨gI, 0, none⟩) (J.length + 2) cI), some (.pointer (some ⟨c.C, 0, none⟩)), some (.pointer (some ⟨c.C, 0, none⟩)), some (.pointer (some ⟨c.C, 31, none⟩)), some (.slice (some ⟨gf, 0, none⟩) J.length fc), some (.int .i64 (i : Int)), some (.pointer (some ⟨gf, i, none⟩)), some (.int .i64 ((i : Int) + 2)), some (.pointer (some ⟨gI, i + 2, none⟩)), some (.int .i64 (x0 : Int)), none, none] : List (Option Value)).getD k none) (fun i => ([some 49, some 50, some 51, some 52, some 53, some 54, some 55, some 56, some 57, some 58, some 59, some 60, some 61, some 62, some 63, some 64, some 65, some 66, some 67, some 68, some 69, some 70, some 71, some 72, some 73, some 74, some 75, some 76] : List (Option Nat)).getD i none) _ a := fun e he hb z t hz ht => by obtain ⟨y, h1, h2⟩ := haf e he hb; rw [h1 t ht, h2.1 z hz]
                refine wpOp_val rfl rfl rfl (by have hx : a.tmps[2]? = some (.pointer (some ⟨bx, 0, none⟩)) := (hF.2.2 2 (.inl (by decide))).trans rfl; have hc := (hcells s w hGs (hH.1 (by decide))).1; simp [execOp, hx, hc, go_sem]) (hK _ _ s hGs ⟨fun z hz => Option.some.inj hz, fun h => absurd h (by decide), fun h => absurd h (by decide)⟩ (fun _ _ _ h => h) (fun _ _ _ h => h))
              | 2, ho =>
                simp at ho; subst ho; refine ⟨rfl, rfl, ?_⟩; intro Up s w a hcl hups hGs hH hF haf Kc hK
                have hP : Pre (fun k => ([some (.pointer (some ⟨c.C, 0, none⟩)), some (.pointer (some ⟨c.C, 0, none⟩)), some (.pointer (some ⟨c.C, 0, none⟩)), some (.pointer (some ⟨c.C, 31, none⟩)), some (.slice (some ⟨gf, 0, none⟩) J.length fc), some (.int .i64 (i : Int)), some (.pointer (some ⟨gf, i, none⟩)), some (.int .i64 ((i : Int) + 2)), some (.pointer (some ⟨c.C, 0, none⟩)), some (.pointer (some ⟨c.C, 0, none⟩)), some (.pointer (some ⟨c.C, 0, none⟩)), some (.pointer (some ⟨c.C, 3, none⟩)), some (.func (.func 21) #[] #[.pointer (some ⟨c.pb, 0, none⟩)]), some (.pointer (some ⟨c.C, 0, none⟩)), some (.pointer (some ⟨c.C, 0, none⟩)), some (.pointer (some ⟨c.C, 6, none⟩)), some (.slice (some ⟨gI, 0, none⟩) (J.length + 2) cI), some (.pointer (some ⟨c.C, 0, none⟩)), some (.pointer (some ⟨c.C, 0, none⟩)), some (.pointer (some ⟨c.C, 31, none⟩)), some (.slice (some ⟨gf, 0, none⟩) J.length fc), some (.int .i64 (i : Int)), some (.pointer (some ⟨gf, i, none⟩)), some (.int .i64 ((i : Int) + 2)), some (.pointer (some ⟨gI, i + 2, none⟩)), some (.int .i64 (x0 : Int)), none, none] : List (Option Value)).getD k none) (fun i => ([some 49, some 50, some 51, some 52, some 53, some 54, some 55, some 56, some 57, some 58, some 59, some 60, some 61, some 62, some 63, some 64, some 65, some 66, some 67, some 68, some 69, some 70, some 71, some 72, some 73, some 74, some 75, some 76] : List (Option Nat)).getD i none) _ a := fun e he hb z t hz ht => by obtain ⟨y, h1, h2⟩ := haf e he hb; rw [h1 t ht, h2.1 z hz]
                refine wpOp_val rfl rfl rfl (by have hx := hP ⟨1, .data⟩ (by simp) rfl _ _ rfl rfl; simp [execOp, hx, go_sem]) (hK _ _ s hGs ⟨fun z hz => Option.some.inj hz, fun h => absurd h (by decide), fun h => absurd h (by decide)⟩ (fun _ _ _ h => h) (fun _ _ _ h => h))
              | 3, ho =>
                simp at ho; subst ho; refine ⟨rfl, rfl, ?_⟩; intro Up s w a hcl hups hGs hH hF haf Kc hK
                have hP : Pre (fun k => ([some (.pointer (some ⟨c.C, 0, none⟩)), some (.pointer (some ⟨c.C, 0, none⟩)), some (.pointer (some ⟨c.C, 0, none⟩)), some (.pointer (some ⟨c.C, 31, none⟩)), some (.slice (some ⟨gf, 0, none⟩) J.length fc), some (.int .i64 (i : Int)), some (.pointer (some ⟨gf, i, none⟩)), some (.int .i64 ((i : Int) + 2)), some (.pointer (some ⟨c.C, 0, none⟩)), some (.pointer (some ⟨c.C, 0, none⟩)), some (.pointer (some ⟨c.C, 0, none⟩)), some (.pointer (some ⟨c.C, 3, none⟩)), some (.func (.func 21) #[] #[.pointer (some ⟨c.pb, 0, none⟩)]), some (.pointer (some ⟨c.C, 0, none⟩)), some (.pointer (some ⟨c.C, 0, none⟩)), some (.pointer (some ⟨c.C, 6, none⟩)), some (.slice (some ⟨gI, 0, none⟩) (J.length + 2) cI), some (.pointer (some ⟨c.C, 0, none⟩)), some (.pointer (some ⟨c.C, 0, none⟩)), some (.pointer (some ⟨c.C, 31, none⟩)), some (.slice (some ⟨gf, 0, none⟩) J.length fc), some (.int .i64 (i : Int)), some (.pointer (some ⟨gf, i, none⟩)), some (.int .i64 ((i : Int) + 2)), some (.pointer (some ⟨gI, i + 2, none⟩)), some (.int .i64 (x0 : Int)), none, none] : List (Option Value)).getD k none) (fun i => ([some 49, some 50, some 51, some 52, some 53, some 54, some 55, some 56, some 57, some 58, some 59, some 60, some 61, some 62, some 63, some 64, some 65, some 66, some 67, some 68, some 69, some 70, some 71, some 72, some 73, some 74, some 75, some 76] : List (Option Nat)).getD i none) _ a := fun e he hb z t hz ht => by obtain ⟨y, h1, h2⟩ := haf e he hb; rw [h1 t ht, h2.1 z hz]
                refine wpOp_val rfl rfl rfl (by have hx := hP ⟨2, .data⟩ (by simp) rfl _ _ rfl rfl; simp [execOp, hx, go_sem]) (hK _ _ s hGs ⟨fun z hz => Option.some.inj hz, fun h => absurd h (by decide), fun h => absurd h (by decide)⟩ (fun _ _ _ h => h) (fun _ _ _ h => h))
              | 4, ho =>
                simp at ho; subst ho; refine ⟨rfl, rfl, ?_⟩; intro Up s w a hcl hups hGs hH hF haf Kc hK
                have hP : Pre (fun k => ([some (.pointer (some ⟨c.C, 0, none⟩)), some (.pointer (some ⟨c.C, 0, none⟩)), some (.pointer (some ⟨c.C, 0, none⟩)), some (.pointer (some ⟨c.C, 31, none⟩)), some (.slice (some ⟨gf, 0, none⟩) J.length fc), some (.int .i64 (i : Int)), some (.pointer (some ⟨gf, i, none⟩)), some (.int .i64 ((i : Int) + 2)), some (.pointer (some ⟨c.C, 0, none⟩)), some (.pointer (some ⟨c.C, 0, none⟩)), some (.pointer (some ⟨c.C, 0, none⟩)), some (.pointer (some ⟨c.C, 3, none⟩)), some (.func (.func 21) #[] #[.pointer (some ⟨c.pb, 0, none⟩)]), some (.pointer (some ⟨c.C, 0, none⟩)), some (.pointer (some ⟨c.C, 0, none⟩)), some (.pointer (some ⟨c.C, 6, none⟩)), some (.slice (some ⟨gI, 0, none⟩) (J.length + 2) cI), some (.pointer (some ⟨c.C, 0, none⟩)), some (.pointer (some ⟨c.C, 0, none⟩)), some (.pointer (some ⟨c.C, 31, none⟩)), some (.slice (some ⟨gf, 0, none⟩) J.length fc), some (.int .i64 (i : Int)), some (.pointer (some ⟨gf, i, none⟩)), some (.int .i64 ((i : Int) + 2)), some (.pointer (some ⟨gI, i + 2, none⟩)), some (.int .i64 (x0 : Int)), none, none] : List (Option Value)).getD k none) (fun i => ([some 49, some 50, some 51, some 52, some 53, some 54, some 55, some 56, some 57, some 58, some 59, some 60, some 61, some 62, some 63, some 64, some 65, some 66, some 67, some 68, some 69, some 70, some 71, some 72, some 73, some 74, some 75, some 76] : List (Option Nat)).getD i none) _ a := fun e he hb z t hz ht => by obtain ⟨y, h1, h2⟩ := haf e he hb; rw [h1 t ht, h2.1 z hz]
                refine wpOp_val rfl rfl rfl (by have hx := hP ⟨3, .data⟩ (by simp) rfl _ _ rfl rfl; have hc := (hcells s w hGs (hH.1 (by decide))).2.1; simp [execOp, hx, hc, go_sem]) (hK _ _ s hGs ⟨fun z hz => Option.some.inj hz, fun h => absurd h (by decide), fun h => absurd h (by decide)⟩ (fun _ _ _ h => h) (fun _ _ _ h => h))
              | 5, ho =>
                simp at ho; subst ho; refine ⟨rfl, rfl, ?_⟩; intro Up s w a hcl hups hGs hH hF haf Kc hK
                have hP : Pre (fun k => ([some (.pointer (some ⟨c.C, 0, none⟩)), some (.pointer (some ⟨c.C, 0, none⟩)), some (.pointer (some ⟨c.C, 0, none⟩)), some (.pointer (some ⟨c.C, 31, none⟩)), some (.slice (some ⟨gf, 0, none⟩) J.length fc), some (.int .i64 (i : Int)), some (.pointer (some ⟨gf, i, none⟩)), some (.int .i64 ((i : Int) + 2)), some (.pointer (some ⟨c.C, 0, none⟩)), some (.pointer (some ⟨c.C, 0, none⟩)), some (.pointer (some ⟨c.C, 0, none⟩)), some (.pointer (some ⟨c.C, 3, none⟩)), some (.func (.func 21) #[] #[.pointer (some ⟨c.pb, 0, none⟩)]), some (.pointer (some ⟨c.C, 0, none⟩)), some (.pointer (some ⟨c.C, 0, none⟩)), some (.pointer (some ⟨c.C, 6, none⟩)), some (.slice (some ⟨gI, 0, none⟩) (J.length + 2) cI), some (.pointer (some ⟨c.C, 0, none⟩)), some (.pointer (some ⟨c.C, 0, none⟩)), some (.pointer (some ⟨c.C, 31, none⟩)), some (.slice (some ⟨gf, 0, none⟩) J.length fc), some (.int .i64 (i : Int)), some (.pointer (some ⟨gf, i, none⟩)), some (.int .i64 ((i : Int) + 2)), some (.pointer (some ⟨gI, i + 2, none⟩)), some (.int .i64 (x0 : Int)), none, none] : List (Option Value)).getD k none) (fun i => ([some 49, some 50, some 51, some 52, some 53, some 54, some 55, some 56, some 57, some 58, some 59, some 60, some 61, some 62, some 63, some 64, some 65, some 66, some 67, some 68, some 69, some 70, some 71, some 72, some 73, some 74, some 75, some 76] : List (Option Nat)).getD i none) _ a := fun e he hb z t hz ht => by obtain ⟨y, h1, h2⟩ := haf e he hb; rw [h1 t ht, h2.1 z hz]
                refine wpOp_val rfl rfl rfl (by have hx : a.tmps[5]? = some (.int .i64 (i : Int)) := (hF.2.2 5 (.inl (by decide))).trans rfl; simp [execOp, hx, go_sem]) (hK _ _ s hGs ⟨fun z hz => Option.some.inj hz, fun h => absurd h (by decide), fun h => absurd h (by decide)⟩ (fun _ _ _ h => h) (fun _ _ _ h => h))
              | 6, ho =>
                simp at ho; subst ho; refine ⟨rfl, rfl, ?_⟩; intro Up s w a hcl hups hGs hH hF haf Kc hK
                have hP : Pre (fun k => ([some (.pointer (some ⟨c.C, 0, none⟩)), some (.pointer (some ⟨c.C, 0, none⟩)), some (.pointer (some ⟨c.C, 0, none⟩)), some (.pointer (some ⟨c.C, 31, none⟩)), some (.slice (some ⟨gf, 0, none⟩) J.length fc), some (.int .i64 (i : Int)), some (.pointer (some ⟨gf, i, none⟩)), some (.int .i64 ((i : Int) + 2)), some (.pointer (some ⟨c.C, 0, none⟩)), some (.pointer (some ⟨c.C, 0, none⟩)), some (.pointer (some ⟨c.C, 0, none⟩)), some (.pointer (some ⟨c.C, 3, none⟩)), some (.func (.func 21) #[] #[.pointer (some ⟨c.pb, 0, none⟩)]), some (.pointer (some ⟨c.C, 0, none⟩)), some (.pointer (some ⟨c.C, 0, none⟩)), some (.pointer (some ⟨c.C, 6, none⟩)), some (.slice (some ⟨gI, 0, none⟩) (J.length + 2) cI), some (.pointer (some ⟨c.C, 0, none⟩)), some (.pointer (some ⟨c.C, 0, none⟩)), some (.pointer (some ⟨c.C, 31, none⟩)), some (.slice (some ⟨gf, 0, none⟩) J.length fc), some (.int .i64 (i : Int)), some (.pointer (some ⟨gf, i, none⟩)), some (.int .i64 ((i : Int) + 2)), some (.pointer (some ⟨gI, i + 2, none⟩)), some (.int .i64 (x0 : Int)), none, none] : List (Option Value)).getD k none) (fun i => ([some 49, some 50, some 51, some 52, some 53, some 54, some 55, some 56, some 57, some 58, some 59, some 60, some 61, some 62, some 63, some 64, some 65, some 66, some 67, some 68, some 69, some 70, some 71, some 72, some 73, some 74, some 75, some 76] : List (Option Nat)).getD i none) _ a := fun e he hb z t hz ht => by obtain ⟨y, h1, h2⟩ := haf e he hb; rw [h1 t ht, h2.1 z hz]
                refine wpOp_val rfl rfl rfl (by have hx := hP ⟨4, .data⟩ (by simp) rfl _ _ rfl rfl; have hy := hP ⟨5, .data⟩ (by simp) rfl _ _ rfl rfl; simp [execOp, hx, hy, go_sem, hil']) (hK _ _ s hGs ⟨fun z hz => Option.some.inj hz, fun h => absurd h (by decide), fun h => absurd h (by decide)⟩ (fun _ _ _ h => h) (fun _ _ _ h => h))
              | 7, ho =>
                simp at ho; subst ho; refine ⟨rfl, rfl, ?_⟩; intro Up s w a hcl hups hGs hH hF haf Kc hK
                have hP : Pre (fun k => ([some (.pointer (some ⟨c.C, 0, none⟩)), some (.pointer (some ⟨c.C, 0, none⟩)), some (.pointer (some ⟨c.C, 0, none⟩)), some (.pointer (some ⟨c.C, 31, none⟩)), some (.slice (some ⟨gf, 0, none⟩) J.length fc), some (.int .i64 (i : Int)), some (.pointer (some ⟨gf, i, none⟩)), some (.int .i64 ((i : Int) + 2)), some (.pointer (some ⟨c.C, 0, none⟩)), some (.pointer (some ⟨c.C, 0, none⟩)), some (.pointer (some ⟨c.C, 0, none⟩)), some (.pointer (some ⟨c.C, 3, none⟩)), some (.func (.func 21) #[] #[.pointer (some ⟨c.pb, 0, none⟩)]), some (.pointer (some ⟨c.C, 0, none⟩)), some (.pointer (some ⟨c.C, 0, none⟩)), some (.pointer (some ⟨c.C, 6, none⟩)), some (.slice (some ⟨gI, 0, none⟩) (J.length + 2) cI), some (.pointer (some ⟨c.C, 0, none⟩)), some (.pointer (some ⟨c.C, 0, none⟩)), some (.pointer (some ⟨c.C, 31, none⟩)), some (.slice (some ⟨gf, 0, none⟩) J.length fc), some (.int .i64 (i : Int)), some (.pointer (some ⟨gf, i, none⟩)), some (.int .i64 ((i : Int) + 2)), some (.pointer (some ⟨gI, i + 2, none⟩)), some (.int .i64 (x0 : Int)), none, none] : List (Option Value)).getD k none) (fun i => ([some 49, some 50, some 51, some 52, some 53, some 54, some 55, some 56, some 57, some 58, some 59, some 60, some 61, some 62, some 63, some 64, some 65, some 66, some 67, some 68, some 69, some 70, some 71, some 72, some 73, some 74, some 75, some 76] : List (Option Nat)).getD i none) _ a := fun e he hb z t hz ht => by obtain ⟨y, h1, h2⟩ := haf e he hb; rw [h1 t ht, h2.1 z hz]
                refine wpOp_val rfl rfl rfl (by have hx := hP ⟨6, .data⟩ (by simp) rfl _ _ rfl rfl; have hc := (hcells s w hGs (hH.1 (by decide))).2.2.1; simp [execOp, hx, hc, go_sem]) (hK _ _ s hGs ⟨fun z hz => Option.some.inj hz, fun h => absurd h (by decide), fun h => absurd h (by decide)⟩ (fun _ _ _ h => h) (fun _ _ _ h => h))
              | 8, ho =>
                simp at ho; subst ho; refine ⟨rfl, rfl, ?_⟩; intro Up s w a hcl hups hGs hH hF haf Kc hK
                have hP : Pre (fun k => ([some (.pointer (some ⟨c.C, 0, none⟩)), some (.pointer (some ⟨c.C, 0, none⟩)), some (.pointer (some ⟨c.C, 0, none⟩)), some (.pointer (some ⟨c.C, 31, none⟩)), some (.slice (some ⟨gf, 0, none⟩) J.length fc), some (.int .i64 (i : Int)), some (.pointer (some ⟨gf, i, none⟩)), some (.int .i64 ((i : Int) + 2)), some (.pointer (some ⟨c.C, 0, none⟩)), some (.pointer (some ⟨c.C, 0, none⟩)), some (.pointer (some ⟨c.C, 0, none⟩)), some (.pointer (some ⟨c.C, 3, none⟩)), some (.func (.func 21) #[] #[.pointer (some ⟨c.pb, 0, none⟩)]), some (.pointer (some ⟨c.C, 0, none⟩)), some (.pointer (some ⟨c.C, 0, none⟩)), some (.pointer (some ⟨c.C, 6, none⟩)), some (.slice (some ⟨gI, 0, none⟩) (J.length + 2) cI), some (.pointer (some ⟨c.C, 0, none⟩)), some (.pointer (some ⟨c.C, 0, none⟩)), some (.pointer (some ⟨c.C, 31, none⟩)), some (.slice (some ⟨gf, 0, none⟩) J.length fc), some (.int .i64 (i : Int)), some (.pointer (some ⟨gf, i, none⟩)), some (.int .i64 ((i : Int) + 2)), some (.pointer (some ⟨gI, i + 2, none⟩)), some (.int .i64 (x0 : Int)), none, none] : List (Option Value)).getD k none) (fun i => ([some 49, some 50, some 51, some 52, some 53, some 54, some 55, some 56, some 57, some 58, some 59, some 60, some 61, some 62, some 63, some 64, some 65, some 66, some 67, some 68, some 69, some 70, some 71, some 72, some 73, some 74, some 75, some 76] : List (Option Nat)).getD i none) _ a := fun e he hb z t hz ht => by obtain ⟨y, h1, h2⟩ := haf e he hb; rw [h1 t ht, h2.1 z hz]
                refine wpOp_val rfl rfl rfl (by have hx : a.tmps[2]? = some (.pointer (some ⟨bx, 0, none⟩)) := (hF.2.2 2 (.inl (by decide))).trans rfl; have hc := (hcells s w hGs (hH.1 (by decide))).1; simp [execOp, hx, hc, go_sem]) (hK _ _ s hGs ⟨fun z hz => Option.some.inj hz, fun h => absurd h (by decide), fun h => absurd h (by decide)⟩ (fun _ _ _ h => h) (fun _ _ _ h => h))
              | 9, ho =>
                simp at ho; subst ho; refine ⟨rfl, rfl, ?_⟩; intro Up s w a hcl hups hGs hH hF haf Kc hK
                have hP : Pre (fun k => ([some (.pointer (some ⟨c.C, 0, none⟩)), some (.pointer (some ⟨c.C, 0, none⟩)), some (.pointer (some ⟨c.C, 0, none⟩)), some (.pointer (some ⟨c.C, 31, none⟩)), some (.slice (some ⟨gf, 0, none⟩) J.length fc), some (.int .i64 (i : Int)), some (.pointer (some ⟨gf, i, none⟩)), some (.int .i64 ((i : Int) + 2)), some (.pointer (some ⟨c.C, 0, none⟩)), some (.pointer (some ⟨c.C, 0, none⟩)), some (.pointer (some ⟨c.C, 0, none⟩)), some (.pointer (some ⟨c.C, 3, none⟩)), some (.func (.func 21) #[] #[.pointer (some ⟨c.pb, 0, none⟩)]), some (.pointer (some ⟨c.C, 0, none⟩)), some (.pointer (some ⟨c.C, 0, none⟩)), some (.pointer (some ⟨c.C, 6, none⟩)), some (.slice (some ⟨gI, 0, none⟩) (J.length + 2) cI), some (.pointer (some ⟨c.C, 0, none⟩)), some (.pointer (some ⟨c.C, 0, none⟩)), some (.pointer (some ⟨c.C, 31, none⟩)), some (.slice (some ⟨gf, 0, none⟩) J.length fc), some (.int .i64 (i : Int)), some (.pointer (some ⟨gf, i, none⟩)), some (.int .i64 ((i : Int) + 2)), some (.pointer (some ⟨gI, i + 2, none⟩)), some (.int .i64 (x0 : Int)), none, none] : List (Option Value)).getD k none) (fun i => ([some 49, some 50, some 51, some 52, some 53, some 54, some 55, some 56, some 57, some 58, some 59, some 60, some 61, some 62, some 63, some 64, some 65, some 66, some 67, some 68, some 69, some 70, some 71, some 72, some 73, some 74, some 75, some 76] : List (Option Nat)).getD i none) _ a := fun e he hb z t hz ht => by obtain ⟨y, h1, h2⟩ := haf e he hb; rw [h1 t ht, h2.1 z hz]
                refine wpOp_val rfl rfl rfl (by have hx : a.tmps[2]? = some (.pointer (some ⟨bx, 0, none⟩)) := (hF.2.2 2 (.inl (by decide))).trans rfl; have hc := (hcells s w hGs (hH.1 (by decide))).1; simp [execOp, hx, hc, go_sem]) (hK _ _ s hGs ⟨fun z hz => Option.some.inj hz, fun h => absurd h (by decide), fun h => absurd h (by decide)⟩ (fun _ _ _ h => h) (fun _ _ _ h => h))
              | 10, ho =>
                simp at ho; subst ho; refine ⟨rfl, rfl, ?_⟩; intro Up s w a hcl hups hGs hH hF haf Kc hK
                have hP : Pre (fun k => ([some (.pointer (some ⟨c.C, 0, none⟩)), some (.pointer (some ⟨c.C, 0, none⟩)), some (.pointer (some ⟨c.C, 0, none⟩)), some (.pointer (some ⟨c.C, 31, none⟩)), some (.slice (some ⟨gf, 0, none⟩) J.length fc), some (.int .i64 (i : Int)), some (.pointer (some ⟨gf, i, none⟩)), some (.int .i64 ((i : Int) + 2)), some (.pointer (some ⟨c.C, 0, none⟩)), some (.pointer (some ⟨c.C, 0, none⟩)), some (.pointer (some ⟨c.C, 0, none⟩)), some (.pointer (some ⟨c.C, 3, none⟩)), some (.func (.func 21) #[] #[.pointer (some ⟨c.pb, 0, none⟩)]), some (.pointer (some ⟨c.C, 0, none⟩)), some (.pointer (some ⟨c.C, 0, none⟩)), some (.pointer (some ⟨c.C, 6, none⟩)), some (.slice (some ⟨gI, 0, none⟩) (J.length + 2) cI), some (.pointer (some ⟨c.C, 0, none⟩)), some (.pointer (some ⟨c.C, 0, none⟩)), some (.pointer (some ⟨c.C, 31, none⟩)), some (.slice (some ⟨gf, 0, none⟩) J.length fc), some (.int .i64 (i : Int)), some (.pointer (some ⟨gf, i, none⟩)), some (.int .i64 ((i : Int) + 2)), some (.pointer (some ⟨gI, i + 2, none⟩)), some (.int .i64 (x0 : Int)), none, none] : List (Option Value)).getD k none) (fun i => ([some 49, some 50, some 51, some 52, some 53, some 54, some 55, some 56, some 57, some 58, some 59, some 60, some 61, some 62, some 63, some 64, some 65, some 66, some 67, some 68, some 69, some 70, some 71, some 72, some 73, some 74, some 75, some 76] : List (Option Nat)).getD i none) _ a := fun e he hb z t hz ht => by obtain ⟨y, h1, h2⟩ := haf e he hb; rw [h1 t ht, h2.1 z hz]
                refine wpOp_val rfl rfl rfl (by have hx := hP ⟨9, .data⟩ (by simp) rfl _ _ rfl rfl; simp [execOp, hx, go_sem]) (hK _ _ s hGs ⟨fun z hz => Option.some.inj hz, fun h => absurd h (by decide), fun h => absurd h (by decide)⟩ (fun _ _ _ h => h) (fun _ _ _ h => h))
              | 11, ho =>
                simp at ho; subst ho; refine ⟨rfl, rfl, ?_⟩; intro Up s w a hcl hups hGs hH hF haf Kc hK
                have hP : Pre (fun k => ([some (.pointer (some ⟨c.C, 0, none⟩)), some (.pointer (some ⟨c.C, 0, none⟩)), some (.pointer (some ⟨c.C, 0, none⟩)), some (.pointer (some ⟨c.C, 31, none⟩)), some (.slice (some ⟨gf, 0, none⟩) J.length fc), some (.int .i64 (i : Int)), some (.pointer (some ⟨gf, i, none⟩)), some (.int .i64 ((i : Int) + 2)), some (.pointer (some ⟨c.C, 0, none⟩)), some (.pointer (some ⟨c.C, 0, none⟩)), some (.pointer (some ⟨c.C, 0, none⟩)), some (.pointer (some ⟨c.C, 3, none⟩)), some (.func (.func 21) #[] #[.pointer (some ⟨c.pb, 0, none⟩)]), some (.pointer (some ⟨c.C, 0, none⟩)), some (.pointer (some ⟨c.C, 0, none⟩)), some (.pointer (some ⟨c.C, 6, none⟩)), some (.slice (some ⟨gI, 0, none⟩) (J.length + 2) cI), some (.pointer (some ⟨c.C, 0, none⟩)), some (.pointer (some ⟨c.C, 0, none⟩)), some (.pointer (some ⟨c.C, 31, none⟩)), some (.slice (some ⟨gf, 0, none⟩) J.length fc), some (.int .i64 (i : Int)), some (.pointer (some ⟨gf, i, none⟩)), some (.int .i64 ((i : Int) + 2)), some (.pointer (some ⟨gI, i + 2, none⟩)), some (.int .i64 (x0 : Int)), none, none] : List (Option Value)).getD k none) (fun i => ([some 49, some 50, some 51, some 52, some 53, some 54, some 55, some 56, some 57, some 58, some 59, some 60, some 61, some 62, some 63, some 64, some 65, some 66, some 67, some 68, some 69, some 70, some 71, some 72, some 73, some 74, some 75, some 76] : List (Option Nat)).getD i none) _ a := fun e he hb z t hz ht => by obtain ⟨y, h1, h2⟩ := haf e he hb; rw [h1 t ht, h2.1 z hz]
                refine wpOp_val rfl rfl rfl (by have hx := hP ⟨10, .data⟩ (by simp) rfl _ _ rfl rfl; simp [execOp, hx, go_sem]) (hK _ _ s hGs ⟨fun z hz => Option.some.inj hz, fun h => absurd h (by decide), fun h => absurd h (by decide)⟩ (fun _ _ _ h => h) (fun _ _ _ h => h))
              | 12, ho =>
                simp at ho; subst ho; refine ⟨rfl, rfl, ?_⟩; intro Up s w a hcl hups hGs hH hF haf Kc hK
                have hP : Pre (fun k => ([some (.pointer (some ⟨c.C, 0, none⟩)), some (.pointer (some ⟨c.C, 0, none⟩)), some (.pointer (some ⟨c.C, 0, none⟩)), some (.pointer (some ⟨c.C, 31, none⟩)), some (.slice (some ⟨gf, 0, none⟩) J.length fc), some (.int .i64 (i : Int)), some (.pointer (some ⟨gf, i, none⟩)), some (.int .i64 ((i : Int) + 2)), some (.pointer (some ⟨c.C, 0, none⟩)), some (.pointer (some ⟨c.C, 0, none⟩)), some (.pointer (some ⟨c.C, 0, none⟩)), some (.pointer (some ⟨c.C, 3, none⟩)), some (.func (.func 21) #[] #[.pointer (some ⟨c.pb, 0, none⟩)]), some (.pointer (some ⟨c.C, 0, none⟩)), some (.pointer (some ⟨c.C, 0, none⟩)), some (.pointer (some ⟨c.C, 6, none⟩)), some (.slice (some ⟨gI, 0, none⟩) (J.length + 2) cI), some (.pointer (some ⟨c.C, 0, none⟩)), some (.pointer (some ⟨c.C, 0, none⟩)), some (.pointer (some ⟨c.C, 31, none⟩)), some (.slice (some ⟨gf, 0, none⟩) J.length fc), some (.int .i64 (i : Int)), some (.pointer (some ⟨gf, i, none⟩)), some (.int .i64 ((i : Int) + 2)), some (.pointer (some ⟨gI, i + 2, none⟩)), some (.int .i64 (x0 : Int)), none, none] : List (Option Value)).getD k none) (fun i => ([some 49, some 50, some 51, some 52, some 53, some 54, some 55, some 56, some 57, some 58, some 59, some 60, some 61, some 62, some 63, some 64, some 65, some 66, some 67, some 68, some 69, some 70, some 71, some 72, some 73, some 74, some 75, some 76] : List (Option Nat)).getD i none) _ a := fun e he hb z t hz ht => by obtain ⟨y, h1, h2⟩ := haf e he hb; rw [h1 t ht, h2.1 z hz]
                refine wpOp_val rfl rfl rfl (by have hx := hP ⟨11, .data⟩ (by simp) rfl _ _ rfl rfl; have hc := (hcells s w hGs (hH.1 (by decide))).2.2.2.1; simp [execOp, hx, hc, go_sem]) (hK _ _ s hGs ⟨fun z hz => Option.some.inj hz, fun h => absurd h (by decide), fun h => absurd h (by decide)⟩ (fun _ _ _ h => h) (fun _ _ _ h => h))
              | 13, ho =>
                simp at ho; subst ho; refine ⟨rfl, rfl, ?_⟩; intro Up s w a hcl hups hGs hH hF haf Kc hK
                have hP : Pre (fun k => ([some (.pointer (some ⟨c.C, 0, none⟩)), some (.pointer (some ⟨c.C, 0, none⟩)), some (.pointer (some ⟨c.C, 0, none⟩)), some (.pointer (some ⟨c.C, 31, none⟩)), some (.slice (some ⟨gf, 0, none⟩) J.length fc), some (.int .i64 (i : Int)), some (.pointer (some ⟨gf, i, none⟩)), some (.int .i64 ((i : Int) + 2)), some (.pointer (some ⟨c.C, 0, none⟩)), some (.pointer (some ⟨c.C, 0, none⟩)), some (.pointer (some ⟨c.C, 0, none⟩)), some (.pointer (some ⟨c.C, 3, none⟩)), some (.func (.func 21) #[] #[.pointer (some ⟨c.pb, 0, none⟩)]), some (.pointer (some ⟨c.C, 0, none⟩)), some (.pointer (some ⟨c.C, 0, none⟩)), some (.pointer (some ⟨c.C, 6, none⟩)), some (.slice (some ⟨gI, 0, none⟩) (J.length + 2) cI), some (.pointer (some ⟨c.C, 0, none⟩)), some (.pointer (some ⟨c.C, 0, none⟩)), some (.pointer (some ⟨c.C, 31, none⟩)), some (.slice (some ⟨gf, 0, none⟩) J.length fc), some (.int .i64 (i : Int)), some (.pointer (some ⟨gf, i, none⟩)), some (.int .i64 ((i : Int) + 2)), some (.pointer (some ⟨gI, i + 2, none⟩)), some (.int .i64 (x0 : Int)), none, none] : List (Option Value)).getD k none) (fun i => ([some 49, some 50, some 51, some 52, some 53, some 54, some 55, some 56, some 57, some 58, some 59, some 60, some 61, some 62, some 63, some 64, some 65, some 66, some 67, some 68, some 69, some 70, some 71, some 72, some 73, some 74, some 75, some 76] : List (Option Nat)).getD i none) _ a := fun e he hb z t hz ht => by obtain ⟨y, h1, h2⟩ := haf e he hb; rw [h1 t ht, h2.1 z hz]
                refine wpOp_val rfl rfl rfl (by have hx : a.tmps[2]? = some (.pointer (some ⟨bx, 0, none⟩)) := (hF.2.2 2 (.inl (by decide))).trans rfl; have hc := (hcells s w hGs (hH.1 (by decide))).1; simp [execOp, hx, hc, go_sem]) (hK _ _ s hGs ⟨fun z hz => Option.some.inj hz, fun h => absurd h (by decide), fun h => absurd h (by decide)⟩ (fun _ _ _ h => h) (fun _ _ _ h => h))
              | 14, ho =>
                simp at ho; subst ho; refine ⟨rfl, rfl, ?_⟩; intro Up s w a hcl hups hGs hH hF haf Kc hK
                have hP : Pre (fun k => ([some (.pointer (some ⟨c.C, 0, none⟩)), some (.pointer (some ⟨c.C, 0, none⟩)), some (.pointer (some ⟨c.C, 0, none⟩)), some (.pointer (some ⟨c.C, 31, none⟩)), some (.slice (some ⟨gf, 0, none⟩) J.length fc), some (.int .i64 (i : Int)), some (.pointer (some ⟨gf, i, none⟩)), some (.int .i64 ((i : Int) + 2)), some (.pointer (some ⟨c.C, 0, none⟩)), some (.pointer (some ⟨c.C, 0, none⟩)), some (.pointer (some ⟨c.C, 0, none⟩)), some (.pointer (some ⟨c.C, 3, none⟩)), some (.func (.func 21) #[] #[.pointer (some ⟨c.pb, 0, none⟩)]), some (.pointer (some ⟨c.C, 0, none⟩)), some (.pointer (some ⟨c.C, 0, none⟩)), some (.pointer (some ⟨c.C, 6, none⟩)), some (.slice (some ⟨gI, 0, none⟩) (J.length + 2) cI), some (.pointer (some ⟨c.C, 0, none⟩)), some (.pointer (some ⟨c.C, 0, none⟩)), some (.pointer (some ⟨c.C, 31, none⟩)), some (.slice (some ⟨gf, 0, none⟩) J.length fc), some (.int .i64 (i : Int)), some (.pointer (some ⟨gf, i, none⟩)), some (.int .i64 ((i : Int) + 2)), some (.pointer (some ⟨gI, i + 2, none⟩)), some (.int .i64 (x0 : Int)), none, none] : List (Option Value)).getD k none) (fun i => ([some 49, some 50, some 51, some 52, some 53, some 54, some 55, some 56, some 57, some 58, some 59, some 60, some 61, some 62, some 63, some 64, some 65, some 66, some 67, some 68, some 69, some 70, some 71, some 72, some 73, some 74, some 75, some 76] : List (Option Nat)).getD i none) _ a := fun e he hb z t hz ht => by obtain ⟨y, h1, h2⟩ := haf e he hb; rw [h1 t ht, h2.1 z hz]
                refine wpOp_val rfl rfl rfl (by have hx := hP ⟨13, .data⟩ (by simp) rfl _ _ rfl rfl; simp [execOp, hx, go_sem]) (hK _ _ s hGs ⟨fun z hz => Option.some.inj hz, fun h => absurd h (by decide), fun h => absurd h (by decide)⟩ (fun _ _ _ h => h) (fun _ _ _ h => h))
              | 15, ho =>
                simp at ho; subst ho; refine ⟨rfl, rfl, ?_⟩; intro Up s w a hcl hups hGs hH hF haf Kc hK
                have hP : Pre (fun k => ([some (.pointer (some ⟨c.C, 0, none⟩)), some (.pointer (some ⟨c.C, 0, none⟩)), some (.pointer (some ⟨c.C, 0, none⟩)), some (.pointer (some ⟨c.C, 31, none⟩)), some (.slice (some ⟨gf, 0, none⟩) J.length fc), some (.int .i64 (i : Int)), some (.pointer (some ⟨gf, i, none⟩)), some (.int .i64 ((i : Int) + 2)), some (.pointer (some ⟨c.C, 0, none⟩)), some (.pointer (some ⟨c.C, 0, none⟩)), some (.pointer (some ⟨c.C, 0, none⟩)), some (.pointer (some ⟨c.C, 3, none⟩)), some (.func (.func 21) #[] #[.pointer (some ⟨c.pb, 0, none⟩)]), some (.pointer (some ⟨c.C, 0, none⟩)), some (.pointer (some ⟨c.C, 0, none⟩)), some (.pointer (some ⟨c.C, 6, none⟩)), some (.slice (some ⟨gI, 0, none⟩) (J.length + 2) cI), some (.pointer (some ⟨c.C, 0, none⟩)), some (.pointer (some ⟨c.C, 0, none⟩)), some (.pointer (some ⟨c.C, 31, none⟩)), some (.slice (some ⟨gf, 0, none⟩) J.length fc), some (.int .i64 (i : Int)), some (.pointer (some ⟨gf, i, none⟩)), some (.int .i64 ((i : Int) + 2)), some (.pointer (some ⟨gI, i + 2, none⟩)), some (.int .i64 (x0 : Int)), none, none] : List (Option Value)).getD k none) (fun i => ([some 49, some 50, some 51, some 52, some 53, some 54, some 55, some 56, some 57, some 58, some 59, some 60, some 61, some 62, some 63, some 64, some 65, some 66, some 67, some 68, some 69, some 70, some 71, some 72, some 73, some 74, some 75, some 76] : List (Option Nat)).getD i none) _ a := fun e he hb z t hz ht => by obtain ⟨y, h1, h2⟩ := haf e he hb; rw [h1 t ht, h2.1 z hz]
                refine wpOp_val rfl rfl rfl (by have hx := hP ⟨14, .data⟩ (by simp) rfl _ _ rfl rfl; simp [execOp, hx, go_sem]) (hK _ _ s hGs ⟨fun z hz => Option.some.inj hz, fun h => absurd h (by decide), fun h => absurd h (by decide)⟩ (fun _ _ _ h => h) (fun _ _ _ h => h))
              | 16, ho =>
                simp at ho; subst ho; refine ⟨rfl, rfl, ?_⟩; intro Up s w a hcl hups hGs hH hF haf Kc hK
                have hP : Pre (fun k => ([some (.pointer (some ⟨c.C, 0, none⟩)), some (.pointer (some ⟨c.C, 0, none⟩)), some (.pointer (some ⟨c.C, 0, none⟩)), some (.pointer (some ⟨c.C, 31, none⟩)), some (.slice (some ⟨gf, 0, none⟩) J.length fc), some (.int .i64 (i : Int)), some (.pointer (some ⟨gf, i, none⟩)), some (.int .i64 ((i : Int) + 2)), some (.pointer (some ⟨c.C, 0, none⟩)), some (.pointer (some ⟨c.C, 0, none⟩)), some (.pointer (some ⟨c.C, 0, none⟩)), some (.pointer (some ⟨c.C, 3, none⟩)), some (.func (.func 21) #[] #[.pointer (some ⟨c.pb, 0, none⟩)]), some (.pointer (some ⟨c.C, 0, none⟩)), some (.pointer (some ⟨c.C, 0, none⟩)), some (.pointer (some ⟨c.C, 6, none⟩)), some (.slice (some ⟨gI, 0, none⟩) (J.length + 2) cI), some (.pointer (some ⟨c.C, 0, none⟩)), some (.pointer (some ⟨c.C, 0, none⟩)), some (.pointer (some ⟨c.C, 31, none⟩)), some (.slice (some ⟨gf, 0, none⟩) J.length fc), some (.int .i64 (i : Int)), some (.pointer (some ⟨gf, i, none⟩)), some (.int .i64 ((i : Int) + 2)), some (.pointer (some ⟨gI, i + 2, none⟩)), some (.int .i64 (x0 : Int)), none, none] : List (Option Value)).getD k none) (fun i => ([some 49, some 50, some 51, some 52, some 53, some 54, some 55, some 56, some 57, some 58, some 59, some 60, some 61, some 62, some 63, some 64, some 65, some 66, some 67, some 68, some 69, some 70, some 71, some 72, some 73, some 74, some 75, some 76] : List (Option Nat)).getD i none) _ a := fun e he hb z t hz ht => by obtain ⟨y, h1, h2⟩ := haf e he hb; rw [h1 t ht, h2.1 z hz]
                refine wpOp_val rfl rfl rfl (by have hx := hP ⟨15, .data⟩ (by simp) rfl _ _ rfl rfl; have hc := (hcells s w hGs (hH.1 (by decide))).2.2.2.2.1; simp [execOp, hx, hc, go_sem]) (hK _ _ s hGs ⟨fun z hz => Option.some.inj hz, fun h => absurd h (by decide), fun h => absurd h (by decide)⟩ (fun _ _ _ h => h) (fun _ _ _ h => h))
              | 17, ho =>
                simp at ho; subst ho; refine ⟨rfl, rfl, ?_⟩; intro Up s w a hcl hups hGs hH hF haf Kc hK
                have hP : Pre (fun k => ([some (.pointer (some ⟨c.C, 0, none⟩)), some (.pointer (some ⟨c.C, 0, none⟩)), some (.pointer (some ⟨c.C, 0, none⟩)), some (.pointer (some ⟨c.C, 31, none⟩)), some (.slice (some ⟨gf, 0, none⟩) J.length fc), some (.int .i64 (i : Int)), some (.pointer (some ⟨gf, i, none⟩)), some (.int .i64 ((i : Int) + 2)), some (.pointer (some ⟨c.C, 0, none⟩)), some (.pointer (some ⟨c.C, 0, none⟩)), some (.pointer (some ⟨c.C, 0, none⟩)), some (.pointer (some ⟨c.C, 3, none⟩)), some (.func (.func 21) #[] #[.pointer (some ⟨c.pb, 0, none⟩)]), some (.pointer (some ⟨c.C, 0, none⟩)), some (.pointer (some ⟨c.C, 0, none⟩)), some (.pointer (some ⟨c.C, 6, none⟩)), some (.slice (some ⟨gI, 0, none⟩) (J.length + 2) cI), some (.pointer (some ⟨c.C, 0, none⟩)), some (.pointer (some ⟨c.C, 0, none⟩)), some (.pointer (some ⟨c.C, 31, none⟩)), some (.slice (some ⟨gf, 0, none⟩) J.length fc), some (.int .i64 (i : Int)), some (.pointer (some ⟨gf, i, none⟩)), some (.int .i64 ((i : Int) + 2)), some (.pointer (some ⟨gI, i + 2, none⟩)), some (.int .i64 (x0 : Int)), none, none] : List (Option Value)).getD k none) (fun i => ([some 49, some 50, some 51, some 52, some 53, some 54, some 55, some 56, some 57, some 58, some 59, some 60, some 61, some 62, some 63, some 64, some 65, some 66, some 67, some 68, some 69, some 70, some 71, some 72, some 73, some 74, some 75, some 76] : List (Option Nat)).getD i none) _ a := fun e he hb z t hz ht => by obtain ⟨y, h1, h2⟩ := haf e he hb; rw [h1 t ht, h2.1 z hz]
                refine wpOp_val rfl rfl rfl (by have hx : a.tmps[2]? = some (.pointer (some ⟨bx, 0, none⟩)) := (hF.2.2 2 (.inl (by decide))).trans rfl; have hc := (hcells s w hGs (hH.1 (by decide))).1; simp [execOp, hx, hc, go_sem]) (hK _ _ s hGs ⟨fun z hz => Option.some.inj hz, fun h => absurd h (by decide), fun h => absurd h (by decide)⟩ (fun _ _ _ h => h) (fun _ _ _ h => h))
              | 18, ho =>
                simp at ho; subst ho; refine ⟨rfl, rfl, ?_⟩; intro Up s w a hcl hups hGs hH hF haf Kc hK
                have hP : Pre (fun k => ([some (.pointer (some ⟨c.C, 0, none⟩)), some (.pointer (some ⟨c.C, 0, none⟩)), some (.pointer (some ⟨c.C, 0, none⟩)), some (.pointer (some ⟨c.C, 31, none⟩)), some (.slice (some ⟨gf, 0, none⟩) J.length fc), some (.int .i64 (i : Int)), some (.pointer (some ⟨gf, i, none⟩)), some (.int .i64 ((i : Int) + 2)), some (.pointer (some ⟨c.C, 0, none⟩)), some (.pointer (some ⟨c.C, 0, none⟩)), some (.pointer (some ⟨c.C, 0, none⟩)), some (.pointer (some ⟨c.C, 3, none⟩)), some (.func (.func 21) #[] #[.pointer (some ⟨c.pb, 0, none⟩)]), some (.pointer (some ⟨c.C, 0, none⟩)), some (.pointer (some ⟨c.C, 0, none⟩)), some (.pointer (some ⟨c.C, 6, none⟩)), some (.slice (some ⟨gI, 0, none⟩) (J.length + 2) cI), some (.pointer (some ⟨c.C, 0, none⟩)), some (.pointer (some ⟨c.C, 0, none⟩)), some (.pointer (some ⟨c.C, 31, none⟩)), some (.slice (some ⟨gf, 0, none⟩) J.length fc), some (.int .i64 (i : Int)), some (.pointer (some ⟨gf, i, none⟩)), some (.int .i64 ((i : Int) + 2)), some (.pointer (some ⟨gI, i + 2, none⟩)), some (.int .i64 (x0 : Int)), none, none] : List (Option Value)).getD k none) (fun i => ([some 49, some 50, some 51, some 52, some 53, some 54, some 55, some 56, some 57, some 58, some 59, some 60, some 61, some 62, some 63, some 64, some 65, some 66, some 67, some 68, some 69, some 70, some 71, some 72, some 73, some 74, some 75, some 76] : List (Option Nat)).getD i none) _ a := fun e he hb z t hz ht => by obtain ⟨y, h1, h2⟩ := haf e he hb; rw [h1 t ht, h2.1 z hz]
                refine wpOp_val rfl rfl rfl (by have hx := hP ⟨17, .data⟩ (by simp) rfl _ _ rfl rfl; simp [execOp, hx, go_sem]) (hK _ _ s hGs ⟨fun z hz => Option.some.inj hz, fun h => absurd h (by decide), fun h => absurd h (by decide)⟩ (fun _ _ _ h => h) (fun _ _ _ h => h))
              | 19, ho =>
                simp at ho; subst ho; refine ⟨rfl, rfl, ?_⟩; intro Up s w a hcl hups hGs hH hF haf Kc hK
                have hP : Pre (fun k => ([some (.pointer (some ⟨c.C, 0, none⟩)), some (.pointer (some ⟨c.C, 0, none⟩)), some (.pointer (some ⟨c.C, 0, none⟩)), some (.pointer (some ⟨c.C, 31, none⟩)), some (.slice (some ⟨gf, 0, none⟩) J.length fc), some (.int .i64 (i : Int)), some (.pointer (some ⟨gf, i, none⟩)), some (.int .i64 ((i : Int) + 2)), some (.pointer (some ⟨c.C, 0, none⟩)), some (.pointer (some ⟨c.C, 0, none⟩)), some (.pointer (some ⟨c.C, 0, none⟩)), some (.pointer (some ⟨c.C, 3, none⟩)), some (.func (.func 21) #[] #[.pointer (some ⟨c.pb, 0, none⟩)]), some (.pointer (some ⟨c.C, 0, none⟩)), some (.pointer (some ⟨c.C, 0, none⟩)), some (.pointer (some ⟨c.C, 6, none⟩)), some (.slice (some ⟨gI, 0, none⟩) (J.length + 2) cI), some (.pointer (some ⟨c.C, 0, none⟩)), some (.pointer (some ⟨c.C, 0, none⟩)), some (.pointer (some ⟨c.C, 31, none⟩)), some (.slice (some ⟨gf, 0, none⟩) J.length fc), some (.int .i64 (i : Int)), some (.pointer (some ⟨gf, i, none⟩)), some (.int .i64 ((i : Int) + 2)), some (.pointer (some ⟨gI, i + 2, none⟩)), some (.int .i64 (x0 : Int)), none, none] : List (Option Value)).getD k none) (fun i => ([some 49, some 50, some 51, some 52, some 53, some 54, some 55, some 56, some 57, some 58, some 59, some 60, some 61, some 62, some 63, some 64, some 65, some 66, some 67, some 68, some 69, some 70, some 71, some 72, some 73, some 74, some 75, some 76] : List (Option Nat)).getD i none) _ a := fun e he hb z t hz ht => by obtain ⟨y, h1, h2⟩ := haf e he hb; rw [h1 t ht, h2.1 z hz]
                refine wpOp_val rfl rfl rfl (by have hx := hP ⟨18, .data⟩ (by simp) rfl _ _ rfl rfl; simp [execOp, hx, go_sem]) (hK _ _ s hGs ⟨fun z hz => Option.some.inj hz, fun h => absurd h (by decide), fun h => absurd h (by decide)⟩ (fun _ _ _ h => h) (fun _ _ _ h => h))
              | 20, ho =>
                simp at ho; subst ho; refine ⟨rfl, rfl, ?_⟩; intro Up s w a hcl hups hGs hH hF haf Kc hK
                have hP : Pre (fun k => ([some (.pointer (some ⟨c.C, 0, none⟩)), some (.pointer (some ⟨c.C, 0, none⟩)), some (.pointer (some ⟨c.C, 0, none⟩)), some (.pointer (some ⟨c.C, 31, none⟩)), some (.slice (some ⟨gf, 0, none⟩) J.length fc), some (.int .i64 (i : Int)), some (.pointer (some ⟨gf, i, none⟩)), some (.int .i64 ((i : Int) + 2)), some (.pointer (some ⟨c.C, 0, none⟩)), some (.pointer (some ⟨c.C, 0, none⟩)), some (.pointer (some ⟨c.C, 0, none⟩)), some (.pointer (some ⟨c.C, 3, none⟩)), some (.func (.func 21) #[] #[.pointer (some ⟨c.pb, 0, none⟩)]), some (.pointer (some ⟨c.C, 0, none⟩)), some (.pointer (some ⟨c.C, 0, none⟩)), some (.pointer (some ⟨c.C, 6, none⟩)), some (.slice (some ⟨gI, 0, none⟩) (J.length + 2) cI), some (.pointer (some ⟨c.C, 0, none⟩)), some (.pointer (some ⟨c.C, 0, none⟩)), some (.pointer (some ⟨c.C, 31, none⟩)), some (.slice (some ⟨gf, 0, none⟩) J.length fc), some (.int .i64 (i : Int)), some (.pointer (some ⟨gf, i, none⟩)), some (.int .i64 ((i : Int) + 2)), some (.pointer (some ⟨gI, i + 2, none⟩)), some (.int .i64 (x0 : Int)), none, none] : List (Option Value)).getD k none) (fun i => ([some 49, some 50, some 51, some 52, some 53, some 54, some 55, some 56, some 57, some 58, some 59, some 60, some 61, some 62, some 63, some 64, some 65, some 66, some 67, some 68, some 69, some 70, some 71, some 72, some 73, some 74, some 75, some 76] : List (Option Nat)).getD i none) _ a := fun e he hb z t hz ht => by obtain ⟨y, h1, h2⟩ := haf e he hb; rw [h1 t ht, h2.1 z hz]
                refine wpOp_val rfl rfl rfl (by have hx := hP ⟨19, .data⟩ (by simp) rfl _ _ rfl rfl; have hc := (hcells s w hGs (hH.1 (by decide))).2.1; simp [execOp, hx, hc, go_sem]) (hK _ _ s hGs ⟨fun z hz => Option.some.inj hz, fun h => absurd h (by decide), fun h => absurd h (by decide)⟩ (fun _ _ _ h => h) (fun _ _ _ h => h))
              | 21, ho =>
                simp at ho; subst ho; refine ⟨rfl, rfl, ?_⟩; intro Up s w a hcl hups hGs hH hF haf Kc hK
                have hP : Pre (fun k => ([some (.pointer (some ⟨c.C, 0, none⟩)), some (.pointer (some ⟨c.C, 0, none⟩)), some (.pointer (some ⟨c.C, 0, none⟩)), some (.pointer (some ⟨c.C, 31, none⟩)), some (.slice (some ⟨gf, 0, none⟩) J.length fc), some (.int .i64 (i : Int)), some (.pointer (some ⟨gf, i, none⟩)), some (.int .i64 ((i : Int) + 2)), some (.pointer (some ⟨c.C, 0, none⟩)), some (.pointer (some ⟨c.C, 0, none⟩)), some (.pointer (some ⟨c.C, 0, none⟩)), some (.pointer (some ⟨c.C, 3, none⟩)), some (.func (.func 21) #[] #[.pointer (some ⟨c.pb, 0, none⟩)]), some (.pointer (some ⟨c.C, 0, none⟩)), some (.pointer (some ⟨c.C, 0, none⟩)), some (.pointer (some ⟨c.C, 6, none⟩)), some (.slice (some ⟨gI, 0, none⟩) (J.length + 2) cI), some (.pointer (some ⟨c.C, 0, none⟩)), some (.pointer (some ⟨c.C, 0, none⟩)), some (.pointer (some ⟨c.C, 31, none⟩)), some (.slice (some ⟨gf, 0, none⟩) J.length fc), some (.int .i64 (i : Int)), some (.pointer (some ⟨gf, i, none⟩)), some (.int .i64 ((i : Int) + 2)), some (.pointer (some ⟨gI, i + 2, none⟩)), some (.int .i64 (x0 : Int)), none, none] : List (Option Value)).getD k none) (fun i => ([some 49, some 50, some 51, some 52, some 53, some 54, some 55, some 56, some 57, some 58, some 59, some 60, some 61, some 62, some 63, some 64, some 65, some 66, some 67, some 68, some 69, some 70, some 71, some 72, some 73, some 74, some 75, some 76] : List (Option Nat)).getD i none) _ a := fun e he hb z t hz ht => by obtain ⟨y, h1, h2⟩ := haf e he hb; rw [h1 t ht, h2.1 z hz]
                refine wpOp_val rfl rfl rfl (by have hx : a.tmps[5]? = some (.int .i64 (i : Int)) := (hF.2.2 5 (.inl (by decide))).trans rfl; simp [execOp, hx, go_sem]) (hK _ _ s hGs ⟨fun z hz => Option.some.inj hz, fun h => absurd h (by decide), fun h => absurd h (by decide)⟩ (fun _ _ _ h => h) (fun _ _ _ h => h))
              | 22, ho =>
                simp at ho; subst ho; refine ⟨rfl, rfl, ?_⟩; intro Up s w a hcl hups hGs hH hF haf Kc hK
                have hP : Pre (fun k => ([some (.pointer (some ⟨c.C, 0, none⟩)), some (.pointer (some ⟨c.C, 0, none⟩)), some (.pointer (some ⟨c.C, 0, none⟩)), some (.pointer (some ⟨c.C, 31, none⟩)), some (.slice (some ⟨gf, 0, none⟩) J.length fc), some (.int .i64 (i : Int)), some (.pointer (some ⟨gf, i, none⟩)), some (.int .i64 ((i : Int) + 2)), some (.pointer (some ⟨c.C, 0, none⟩)), some (.pointer (some ⟨c.C, 0, none⟩)), some (.pointer (some ⟨c.C, 0, none⟩)), some (.pointer (some ⟨c.C, 3, none⟩)), some (.func (.func 21) #[] #[.pointer (some ⟨c.pb, 0, none⟩)]), some (.pointer (some ⟨c.C, 0, none⟩)), some (.pointer (some ⟨c.C, 0, none⟩)), some (.pointer (some ⟨c.C, 6, none⟩)), some (.slice (some ⟨gI, 0, none⟩) (J.length + 2) cI), some (.pointer (some ⟨c.C, 0, none⟩)), some (.pointer (some ⟨c.C, 0, none⟩)), some (.pointer (some ⟨c.C, 31, none⟩)), some (.slice (some ⟨gf, 0, none⟩) J.length fc), some (.int .i64 (i : Int)), some (.pointer (some ⟨gf, i, none⟩)), some (.int .i64 ((i : Int) + 2)), some (.pointer (some ⟨gI, i + 2, none⟩)), some (.int .i64 (x0 : Int)), none, none] : List (Option Value)).getD k none) (fun i => ([some 49, some 50, some 51, some 52, some 53, some 54, some 55, some 56, some 57, some 58, some 59, some 60, some 61, some 62, some 63, some 64, some 65, some 66, some 67, some 68, some 69, some 70, some 71, some 72, some 73, some 74, some 75, some 76] : List (Option Nat)).getD i none) _ a := fun e he hb z t hz ht => by obtain ⟨y, h1, h2⟩ := haf e he hb; rw [h1 t ht, h2.1 z hz]
                refine wpOp_val rfl rfl rfl (by have hx := hP ⟨20, .data⟩ (by simp) rfl _ _ rfl rfl; have hy := hP ⟨21, .data⟩ (by simp) rfl _ _ rfl rfl; simp [execOp, hx, hy, go_sem, hil']) (hK _ _ s hGs ⟨fun z hz => Option.some.inj hz, fun h => absurd h (by decide), fun h => absurd h (by decide)⟩ (fun _ _ _ h => h) (fun _ _ _ h => h))
              | 23, ho =>
                simp at ho; subst ho; refine ⟨rfl, rfl, ?_⟩; intro Up s w a hcl hups hGs hH hF haf Kc hK
                have hP : Pre (fun k => ([some (.pointer (some ⟨c.C, 0, none⟩)), some (.pointer (some ⟨c.C, 0, none⟩)), some (.pointer (some ⟨c.C, 0, none⟩)), some (.pointer (some ⟨c.C, 31, none⟩)), some (.slice (some ⟨gf, 0, none⟩) J.length fc), some (.int .i64 (i : Int)), some (.pointer (some ⟨gf, i, none⟩)), some (.int .i64 ((i : Int) + 2)), some (.pointer (some ⟨c.C, 0, none⟩)), some (.pointer (some ⟨c.C, 0, none⟩)), some (.pointer (some ⟨c.C, 0, none⟩)), some (.pointer (some ⟨c.C, 3, none⟩)), some (.func (.func 21) #[] #[.pointer (some ⟨c.pb, 0, none⟩)]), some (.pointer (some ⟨c.C, 0, none⟩)), some (.pointer (some ⟨c.C, 0, none⟩)), some (.pointer (some ⟨c.C, 6, none⟩)), some (.slice (some ⟨gI, 0, none⟩) (J.length + 2) cI), some (.pointer (some ⟨c.C, 0, none⟩)), some (.pointer (some ⟨c.C, 0, none⟩)), some (.pointer (some ⟨c.C, 31, none⟩)), some (.slice (some ⟨gf, 0, none⟩) J.length fc), some (.int .i64 (i : Int)), some (.pointer (some ⟨gf, i, none⟩)), some (.int .i64 ((i : Int) + 2)), some (.pointer (some ⟨gI, i + 2, none⟩)), some (.int .i64 (x0 : Int)), none, none] : List (Option Value)).getD k none) (fun i => ([some 49, some 50, some 51, some 52, some 53, some 54, some 55, some 56, some 57, some 58, some 59, some 60, some 61, some 62, some 63, some 64, some 65, some 66, some 67, some 68, some 69, some 70, some 71, some 72, some 73, some 74, some 75, some 76] : List (Option Nat)).getD i none) _ a := fun e he hb z t hz ht => by obtain ⟨y, h1, h2⟩ := haf e he hb; rw [h1 t ht, h2.1 z hz]
                refine wpOp_val rfl rfl rfl (by have hx := hP ⟨22, .data⟩ (by simp) rfl _ _ rfl rfl; have hc := (hcells s w hGs (hH.1 (by decide))).2.2.1; simp [execOp, hx, hc, go_sem]) (hK _ _ s hGs ⟨fun z hz => Option.some.inj hz, fun h => absurd h (by decide), fun h => absurd h (by decide)⟩ (fun _ _ _ h => h) (fun _ _ _ h => h))
              | 24, ho =>
                simp at ho; subst ho; refine ⟨rfl, rfl, ?_⟩; intro Up s w a hcl hups hGs hH hF haf Kc hK
                have hP : Pre (fun k => ([some (.pointer (some ⟨c.C, 0, none⟩)), some (.pointer (some ⟨c.C, 0, none⟩)), some (.pointer (some ⟨c.C, 0, none⟩)), some (.pointer (some ⟨c.C, 31, none⟩)), some (.slice (some ⟨gf, 0, none⟩) J.length fc), some (.int .i64 (i : Int)), some (.pointer (some ⟨gf, i, none⟩)), some (.int .i64 ((i : Int) + 2)), some (.pointer (some ⟨c.C, 0, none⟩)), some (.pointer (some ⟨c.C, 0, none⟩)), some (.pointer (some ⟨c.C, 0, none⟩)), some (.pointer (some ⟨c.C, 3, none⟩)), some (.func (.func 21) #[] #[.pointer (some ⟨c.pb, 0, none⟩)]), some (.pointer (some ⟨c.C, 0, none⟩)), some (.pointer (some ⟨c.C, 0, none⟩)), some (.pointer (some ⟨c.C, 6, none⟩)), some (.slice (some ⟨gI, 0, none⟩) (J.length + 2) cI), some (.pointer (some ⟨c.C, 0, none⟩)), some (.pointer (some ⟨c.C, 0, none⟩)), some (.pointer (some ⟨c.C, 31, none⟩)), some (.slice (some ⟨gf, 0, none⟩) J.length fc), some (.int .i64 (i : Int)), some (.pointer (some ⟨gf, i, none⟩)), some (.int .i64 ((i : Int) + 2)), some (.pointer (some ⟨gI, i + 2, none⟩)), some (.int .i64 (x0 : Int)), none, none] : List (Option Value)).getD k none) (fun i => ([some 49, some 50, some 51, some 52, some 53, some 54, some 55, some 56, some 57, some 58, some 59, some 60, some 61, some 62, some 63, some 64, some 65, some 66, some 67, some 68, some 69, some 70, some 71, some 72, some 73, some 74, some 75, some 76] : List (Option Nat)).getD i none) _ a := fun e he hb z t hz ht => by obtain ⟨y, h1, h2⟩ := haf e he hb; rw [h1 t ht, h2.1 z hz]
                refine wpOp_val rfl rfl rfl (by have hx := hP ⟨16, .data⟩ (by simp) rfl _ _ rfl rfl; have hy := hP ⟨23, .data⟩ (by simp) rfl _ _ rfl rfl; simp [execOp, hx, hy, go_sem, hii, hi0, htn]) (hK _ _ s hGs ⟨fun z hz => Option.some.inj hz, fun h => absurd h (by decide), fun h => absurd h (by decide)⟩ (fun _ _ _ h => h) (fun _ _ _ h => h))
              | 25, ho =>
                simp at ho; subst ho; refine ⟨rfl, rfl, ?_⟩; intro Up s w a hcl hups hGs hH hF haf Kc hK
                have hP : Pre (fun k => ([some (.pointer (some ⟨c.C, 0, none⟩)), some (.pointer (some ⟨c.C, 0, none⟩)), some (.pointer (some ⟨c.C, 0, none⟩)), some (.pointer (some ⟨c.C, 31, none⟩)), some (.slice (some ⟨gf, 0, none⟩) J.length fc), some (.int .i64 (i : Int)), some (.pointer (some ⟨gf, i, none⟩)), some (.int .i64 ((i : Int) + 2)), some (.pointer (some ⟨c.C, 0, none⟩)), some (.pointer (some ⟨c.C, 0, none⟩)), some (.pointer (some ⟨c.C, 0, none⟩)), some (.pointer (some ⟨c.C, 3, none⟩)), some (.func (.func 21) #[] #[.pointer (some ⟨c.pb, 0, none⟩)]), some (.pointer (some ⟨c.C, 0, none⟩)), some (.pointer (some ⟨c.C, 0, none⟩)), some (.pointer (some ⟨c.C, 6, none⟩)), some (.slice (some ⟨gI, 0, none⟩) (J.length + 2) cI), some (.pointer (some ⟨c.C, 0, none⟩)), some (.pointer (some ⟨c.C, 0, none⟩)), some (.pointer (some ⟨c.C, 31, none⟩)), some (.slice (some ⟨gf, 0, none⟩) J.length fc), some (.int .i64 (i : Int)), some (.pointer (some ⟨gf, i, none⟩)), some (.int .i64 ((i : Int) + 2)), some (.pointer (some ⟨gI, i + 2, none⟩)), some (.int .i64 (x0 : Int)), none, none] : List (Option Value)).getD k none) (fun i => ([some 49, some 50, some 51, some 52, some 53, some 54, some 55, some 56, some 57, some 58, some 59, some 60, some 61, some 62, some 63, some 64, some 65, some 66, some 67, some 68, some 69, some 70, some 71, some 72, some 73, some 74, some 75, some 76] : List (Option Nat)).getD i none) _ a := fun e he hb z t hz ht => by obtain ⟨y, h1, h2⟩ := haf e he hb; rw [h1 t ht, h2.1 z hz]
                refine wpOp_val rfl rfl rfl (by have hx := hP ⟨24, .data⟩ (by simp) rfl _ _ rfl rfl; have hc := (hcells s w hGs (hH.1 (by decide))).2.2.2.2.2; simp [execOp, hx, hc, go_sem]) (hK _ _ s hGs ⟨fun z hz => Option.some.inj hz, fun h => absurd h (by decide), fun h => absurd h (by decide)⟩ (fun _ _ _ h => h) (fun _ _ _ h => h))
              | 26, ho =>
                simp at ho; subst ho; refine ⟨rfl, rfl, ?_⟩; intro Up s w a hcl hups hGs hH hF haf Kc hK
                have hP : Pre (fun k => ([some (.pointer (some ⟨c.C, 0, none⟩)), some (.pointer (some ⟨c.C, 0, none⟩)), some (.pointer (some ⟨c.C, 0, none⟩)), some (.pointer (some ⟨c.C, 31, none⟩)), some (.slice (some ⟨gf, 0, none⟩) J.length fc), some (.int .i64 (i : Int)), some (.pointer (some ⟨gf, i, none⟩)), some (.int .i64 ((i : Int) + 2)), some (.pointer (some ⟨c.C, 0, none⟩)), some (.pointer (some ⟨c.C, 0, none⟩)), some (.pointer (some ⟨c.C, 0, none⟩)), some (.pointer (some ⟨c.C, 3, none⟩)), some (.func (.func 21) #[] #[.pointer (some ⟨c.pb, 0, none⟩)]), some (.pointer (some ⟨c.C, 0, none⟩)), some (.pointer (some ⟨c.C, 0, none⟩)), some (.pointer (some ⟨c.C, 6, none⟩)), some (.slice (some ⟨gI, 0, none⟩) (J.length + 2) cI), some (.pointer (some ⟨c.C, 0, none⟩)), some (.pointer (some ⟨c.C, 0, none⟩)), some (.pointer (some ⟨c.C, 31, none⟩)), some (.slice (some ⟨gf, 0, none⟩) J.length fc), some (.int .i64 (i : Int)), some (.pointer (some ⟨gf, i, none⟩)), some (.int .i64 ((i : Int) + 2)), some (.pointer (some ⟨gI, i + 2, none⟩)), some (.int .i64 (x0 : Int)), none, none] : List (Option Value)).getD k none) (fun i => ([some 49, some 50, some 51, some 52, some 53, some 54, some 55, some 56, some 57, some 58, some 59, some 60, some 61, some 62, some 63, some 64, some 65, some 66, some 67, some 68, some 69, some 70, some 71, some 72, some 73, some 74, some 75, some 76] : List (Option Nat)).getD i none) _ a := fun e he hb z t hz ht => by obtain ⟨y, h1, h2⟩ := haf e he hb; rw [h1 t ht, h2.1 z hz]
                have g1 := hP ⟨8, .data⟩ (by simp) rfl _ _ rfl rfl
                have g2 := hP ⟨12, .data⟩ (by simp) rfl _ _ rfl rfl
                have g3 := hP ⟨25, .data⟩ (by simp) rfl _ _ rfl rfl
                have hs0 : s.1 = 0 := hH.2.1 rfl
                rw [hGs0] at hGs
                obtain ⟨n, rfl⟩ : ∃ n, w = wr.drewN n := by
                  rcases hGs with ⟨_, h⟩ | ⟨h, _⟩ | ⟨h, _⟩
                  · exact h
                  · omega
                  · omega
                refine wpOp_enter (f := 24) (args := #[.pointer (some ⟨c.C, 0, none⟩), .func (.func 21) #[] #[.pointer (some ⟨c.pb, 0, none⟩)], .int .i64 (x0 : Int)]) rfl rfl rfl (by simp [g1, g2, g3, go_sem]) ?_
                refine Calls.mono (readP_calls c K1 v1 _ (q3.drewN n) q2 x0 23 (200 + x0) P row wk HQ6.out (by omega) hPl hkrow (pred_fn_calls c K1 v1 _ (q3.drewN n) gP cP x0 0 row hvp hx0N crow)) ?_
                rintro e w8 ⟨xr, rfl, hbl8, hst8⟩
                have hsz8 := hbl8.size
                refine ⟨xr, rfl, hK _ _ (1, xr) (by rw [hGs0]; exact .inr (.inl ⟨rfl, (below_drewN (Below.refl _ _) n).trans hbl8, Nat.le_trans q2 hsz8, hst8⟩)) ⟨fun z hz => (by cases hz), fun _ => ⟨Nat.le_refl _, rfl⟩, fun h => absurd h (by decide)⟩ ?_ ?_⟩
                · rintro k x hk ⟨p1, p2, p3⟩
                  exact ⟨p1, fun h => absurd h hk, fun h => by have := p3 h; omega⟩
                · rintro k hk _ ⟨p1, p2, p3⟩
                  exact ⟨fun _ => Nat.le_refl _, fun h => absurd h hk, fun _ => Nat.le_refl _⟩
              | 27, ho =>
                simp at ho; subst ho; refine ⟨rfl, rfl, ?_⟩; intro Up s w a hcl hups hGs hH hF haf Kc hK
                have hP : Pre (fun k => ([some (.pointer (some ⟨c.C, 0, none⟩)), some (.pointer (some ⟨c.C, 0, none⟩)), some (.pointer (some ⟨c.C, 0, none⟩)), some (.pointer (some ⟨c.C, 31, none⟩)), some (.slice (some ⟨gf, 0, none⟩) J.length fc), some (.int .i64 (i : Int)), some (.pointer (some ⟨gf, i, none⟩)), some (.int .i64 ((i : Int) + 2)), some (.pointer (some ⟨c.C, 0, none⟩)), some (.pointer (some ⟨c.C, 0, none⟩)), some (.pointer (some ⟨c.C, 0, none⟩)), some (.pointer (some ⟨c.C, 3, none⟩)), some (.func (.func 21) #[] #[.pointer (some ⟨c.pb, 0, none⟩)]), some (.pointer (some ⟨c.C, 0, none⟩)), some (.pointer (some ⟨c.C, 0, none⟩)), some (.pointer (some ⟨c.C, 6, none⟩)), some (.slice (some ⟨gI, 0, none⟩) (J.length + 2) cI), some (.pointer (some ⟨c.C, 0, none⟩)), some (.pointer (some ⟨c.C, 0, none⟩)), some (.pointer (some ⟨c.C, 31, none⟩)), some (.slice (some ⟨gf, 0, none⟩) J.length fc), some (.int .i64 (i : Int)), some (.pointer (some ⟨gf, i, none⟩)), some (.int .i64 ((i : Int) + 2)), some (.pointer (some ⟨gI, i + 2, none⟩)), some (.int .i64 (x0 : Int)), none, none] : List (Option Value)).getD k none) (fun i => ([some 49, some 50, some 51, some 52, some 53, some 54, some 55, some 56, some 57, some 58, some 59, some 60, some 61, some 62, some 63, some 64, some 65, some 66, some 67, some 68, some 69, some 70, some 71, some 72, some 73, some 74, some 75, some 76] : List (Option Nat)).getD i none) _ a := fun e he hb z t hz ht => by obtain ⟨y, h1, h2⟩ := haf e he hb; rw [h1 t ht, h2.1 z hz]
                have g1 := hP ⟨0, .data⟩ (by simp) rfl _ _ rfl rfl
                have g2 := hP ⟨7, .data⟩ (by simp) rfl _ _ rfl rfl
                obtain ⟨y, hy1, hy2⟩ := haf ⟨26, .data⟩ (by simp) rfl
                have g3 := hy1 _ rfl
                have hyx := (hy2.2.1 rfl).2
                have hs1 := (hy2.2.1 rfl).1
                have hs2 := hH.2.2 rfl
                rw [hyx] at g3
                rw [hGs0] at hGs
                obtain ⟨hb1, hb2, hb3⟩ : Below c.base wr w ∧ c.base ≤ w.heap.size ∧ St c (upd K1 23 ⟨3, 1, P.length, s.2, ints P⟩) { v1 with work := ((wk + 1 + P.length : Nat) : Int) } w := by
                  rcases hGs with ⟨h, _⟩ | ⟨_, h⟩ | ⟨h, _⟩
                  · omega
                  · exact h
                  · omega
                refine wpOp_enter (f := 50) (args := #[.pointer (some ⟨c.C, 0, none⟩), .int .i64 ((i : Int) + 2), s.2]) rfl rfl rfl (by simp [g1, g2, g3, go_sem]) ?_
                have hpi : (((pc J x0 : Nat)) : Int) = (i : Int) + 2 := by rw [hpc]; omega
                have htk := takeIn_calls c (upd K1 23 ⟨3, 1, P.length, s.2, ints P⟩) (upd D1 23 ⟨3, 1, P.length, s.2, ints P⟩) { v1 with work := ((wk + 1 + P.length : Nat) : Int) } w A W d J O1 I1 L1 (fun _ x => x ∈ J.take i) (100 + 64 * i) 0 (wk + 1 + P.length) x0 s.2 hb3 ((HQ4.out.nameD 23 _ (by omega) (by omega)).mono (Nat.le_refl _) _) hb2 (hGD.agree (fun n _ _ h3 _ => upd_other _ _ h3)) HQ5.out hx0J (by omega) rfl (by omega) (by rw [upd_same, hPe]) q7 q8
                rw [hpi, ← hPe] at htk
                refine Calls.mono htk ?_
                rintro e w9 ⟨rfl, ht9⟩
                refine ⟨_, rfl, hK _ _ (2, s.2) (by rw [hGs0]; exact .inr (.inr ⟨rfl, w, hb1, ht9⟩)) ⟨fun z hz => (by cases hz), fun h => absurd h (by decide), fun _ => rfl⟩ ?_ ?_⟩
                · rintro k x hk ⟨p1, p2, p3⟩
                  exact ⟨p1, fun h => ⟨by show 1 ≤ 2; omega, (p2 h).2⟩, fun _ => rfl⟩
                · rintro k hk hnu _
                  by_cases hk28 : 28 ≤ k
                  · exact ⟨fun h => by omega, fun h => by omega, fun h => by omega⟩
                  · exfalso
                    have u0 := hups ⟨0, .data⟩ (by simp) rfl
                    have u7 := hups ⟨7, .data⟩ (by simp) rfl
                    have u26 := hups ⟨26, .data⟩ (by simp) rfl
                    have u6 := hcl 7 _ rfl u7 ⟨6, .data⟩ (by simp) rfl
                    have u8 := hcl 26 _ rfl u26 ⟨8, .data⟩ (by simp) rfl
                    have u12 := hcl 26 _ rfl u26 ⟨12, .data⟩ (by simp) rfl
                    have u25 := hcl 26 _ rfl u26 ⟨25, .data⟩ (by simp) rfl
                    have u4 := hcl 6 _ rfl u6 ⟨4, .data⟩ (by simp) rfl
                    have u5 := hcl 6 _ rfl u6 ⟨5, .data⟩ (by simp) rfl
                    have u11 := hcl 12 _ rfl u12 ⟨11, .data⟩ (by simp) rfl
                    have u24 := hcl 25 _ rfl u25 ⟨24, .data⟩ (by simp) rfl
                    have u3 := hcl 4 _ rfl u4 ⟨3, .data⟩ (by simp) rfl
                    have u10 := hcl 11 _ rfl u11 ⟨10, .data⟩ (by simp) rfl
                    have u16 := hcl 24 _ rfl u24 ⟨16, .data⟩ (by simp) rfl
                    have u23 := hcl 24 _ rfl u24 ⟨23, .data⟩ (by simp) rfl
                    have u2 := hcl 3 _ rfl u3 ⟨2, .data⟩ (by simp) rfl
                    have u9 := hcl 10 _ rfl u10 ⟨9, .data⟩ (by simp) rfl
                    have u15 := hcl 16 _ rfl u16 ⟨15, .data⟩ (by simp) rfl
                    have u22 := hcl 23 _ rfl u23 ⟨22, .data⟩ (by simp) rfl
                    have u1 := hcl 2 _ rfl u2 ⟨1, .data⟩ (by simp) rfl
                    have u14 := hcl 15 _ rfl u15 ⟨14, .data⟩ (by simp) rfl
                    have u20 := hcl 22 _ rfl u22 ⟨20, .data⟩ (by simp) rfl
                    have u21 := hcl 22 _ rfl u22 ⟨21, .data⟩ (by simp) rfl
                    have u13 := hcl 14 _ rfl u14 ⟨13, .data⟩ (by simp) rfl
                    have u19 := hcl 20 _ rfl u20 ⟨19, .data⟩ (by simp) rfl
                    have u18 := hcl 19 _ rfl u19 ⟨18, .data⟩ (by simp) rfl
                    have u17 := hcl 18 _ rfl u18 ⟨17, .data⟩ (by simp) rfl
                    have hup : Up k := by
                      rcases (by omega : k = 0 ∨ k = 1 ∨ k = 2 ∨ k = 3 ∨ k = 4 ∨ k = 5 ∨ k = 6 ∨ k = 7 ∨ k = 8 ∨ k = 9 ∨ k = 10 ∨ k = 11 ∨ k = 12 ∨ k = 13 ∨ k = 14 ∨ k = 15 ∨ k = 16 ∨ k = 17 ∨ k = 18 ∨ k = 19 ∨ k = 20 ∨ k = 21 ∨ k = 22 ∨ k = 23 ∨ k = 24 ∨ k = 25 ∨ k = 26) with rfl | rfl | rfl | rfl | rfl | rfl | rfl | rfl | rfl | rfl | rfl | rfl | rfl | rfl | rfl | rfl | rfl | rfl | rfl | rfl | rfl | rfl | rfl | rfl | rfl | rfl | rfl
                      · exact u0
                      · exact u1
                      · exact u2
                      · exact u3
                      · exact u4
                      · exact u5
                      · exact u6
                      · exact u7
                      · exact u8
                      · exact u9
                      · exact u10
                      · exact u11
                      · exact u12
                      · exact u13
                      · exact u14
                      · exact u15
                      · exact u16
                      · exact u17
                      · exact u18
                      · exact u19
                      · exact u20
                      · exact u21
                      · exact u22
                      · exact u23
                      · exact u24
                      · exact u25
                      · exact u26
                    exact hnu hup
              | k + 28, ho => simp at ho
            case hend =>
              intro a w6 s6 hg6 hF hU
              obtain ⟨y6, _, hy6⟩ := hU 27 (by decide)
              have hs6 := hy6.2.2 rfl
              rw [hGs0] at hg6
              obtain ⟨wm, hbm, K9, v9, J9, O9, I9, L9, t1, t2, t3, t4, t5, ⟨T, hT, t6⟩, t7, t8⟩ : ∃ wm, Below c.base wr wm ∧ TkRel c (upd D1 23 ⟨3, 1, P.length, s6.2, ints P⟩) wm A d J P (fun _ x => x ∈ J.take i) x0 (100 + 64 * i) 0 (wk + 1 + P.length) P.length w6 := by
                rcases hg6 with ⟨h, _⟩ | ⟨h, _⟩ | ⟨_, h⟩
                · omega
                · omega
                · exact h
              obtain ⟨zs, hzs, hact⟩ := hF.form (by simp) (by decide)
              replace hzs : zs.length = 28 := by simpa using hzs
              obtain ⟨z49, zs0, e0, hzs0⟩ := list_cons (n := 27) hzs
              obtain ⟨z50, zs1, e1, hzs1⟩ := list_cons (n := 26) hzs0
              obtain ⟨z51, zs2, e2, hzs2⟩ := list_cons (n := 25) hzs1
              obtain ⟨z52, zs3, e3, hzs3⟩ := list_cons (n := 24) hzs2
              obtain ⟨z53, zs4, e4, hzs4⟩ := list_cons (n := 23) hzs3
              obtain ⟨z54, zs5, e5, hzs5⟩ := list_cons (n := 22) hzs4
              obtain ⟨z55, zs6, e6, hzs6⟩ := list_cons (n := 21) hzs5
              obtain ⟨z56, zs7, e7, hzs7⟩ := list_cons (n := 20) hzs6
              obtain ⟨z57, zs8, e8, hzs8⟩ := list_cons (n := 19) hzs7
              obtain ⟨z58, zs9, e9, hzs9⟩ := list_cons (n := 18) hzs8
              obtain ⟨z59, zs10, e10, hzs10⟩ := list_cons (n := 17) hzs9
              obtain ⟨z60, zs11, e11, hzs11⟩ := list_cons (n := 16) hzs10
              obtain ⟨z61, zs12, e12, hzs12⟩ := list_cons (n := 15) hzs11
              obtain ⟨z62, zs13, e13, hzs13⟩ := list_cons (n := 14) hzs12
              obtain ⟨z63, zs14, e14, hzs14⟩ := list_cons (n := 13) hzs13
              obtain ⟨z64, zs15, e15, hzs15⟩ := list_cons (n := 12) hzs14
              obtain ⟨z65, zs16, e16, hzs16⟩ := list_cons (n := 11) hzs15
              obtain ⟨z66, zs17, e17, hzs17⟩ := list_cons (n := 10) hzs16
              obtain ⟨z67, zs18, e18, hzs18⟩ := list_cons (n := 9) hzs17
              obtain ⟨z68, zs19, e19, hzs19⟩ := list_cons (n := 8) hzs18
              obtain ⟨z69, zs20, e20, hzs20⟩ := list_cons (n := 7) hzs19
              obtain ⟨z70, zs21, e21, hzs21⟩ := list_cons (n := 6) hzs20
              obtain ⟨z71, zs22, e22, hzs22⟩ := list_cons (n := 5) hzs21
              obtain ⟨z72, zs23, e23, hzs23⟩ := list_cons (n := 4) hzs22
              obtain ⟨z73, zs24, e24, hzs24⟩ := list_cons (n := 3) hzs23
              obtain ⟨z74, zs25, e25, hzs25⟩ := list_cons (n := 2) hzs24
              obtain ⟨z75, zs26, e26, hzs26⟩ := list_cons (n := 1) hzs25
              obtain ⟨z76, zs27, e27, hzs27⟩ := list_cons (n := 0) hzs26
              obtain rfl := List.eq_nil_of_length_eq_zero hzs27
              subst e27 e26 e25 e24 e23 e22 e21 e20 e19 e18 e17 e16 e15 e14 e13 e12 e11 e10 e9 e8 e7 e6 e5 e4 e3 e2 e1 e0
              subst hact
              simp only [List.take_succ_cons, List.take_zero, List.drop_succ_cons, List.drop_zero, List.cons_append, List.nil_append]
              subst hT
              have hTW : ∀ x ∈ T, x ≠ W := by
                rintro x hx rfl
                have := List.nodup_append.1 t5.nd
                exact this.2.2 x hW x hx rfl
              have HT4 : Hid (Rw c K9 v9 (upd D1 23 ⟨3, 1, P.length, s6.2, ints P⟩) (J ++ T) O9 I9 L9 (100 + 64 * i + 8 * P.length) 0) := t4
              have HT5 : Hid (Inv A c.N d (J ++ T) O9 I9 (fun _ x => x ∈ (J ++ T).take (i + 1))) := Inv.took hx0 (by rw [← hPe]; exact t5)
              have hT6 : v9.work = ((workJ A (preds A c.N) W (J ++ T) (i + 1) : Nat) : Int) := by rw [workJ_took hx0 hTW, t6, ← HWK.out, ← hPe]; omega
              have HT6 : Hid (v9.work = ((workJ A (preds A c.N) W (J ++ T) (i + 1) : Nat) : Int)) := hT6
              have hwm := hbm.trans t1
              clear t4 t5 t6 hT6 hTW hg6 hcells hcell hy6 hU
              go_wp2_with fail
              refine ⟨⟨rfl, i + 1, by go_num, K9, v9, upd D1 23 ⟨3, 1, P.length, s6.2, ints P⟩, J ++ T, O9, I9, L9, List.mem_append_left _ hW, q1.trans hwm, t2, t3, ?_, HT5.out, HT6.out, t7, t8, (upd_other _ _ (by omega)).trans HQ9.out, by simp; omega, fun n a1 a2 a3 a4 => (upd_other _ _ a3).trans (HQ11.out n a1 a2 a3 a4)⟩, by simp [intOf]; omega⟩
              have hmm := HT4.out.mono (B' := 100 + 64 * (i + 1)) (by omega) v9.work
              exact hmm
        · have hil' : ¬ ((i : Int) < (J.length : Int)) := by omega
          obtain rfl : i = J.length := by omega
          go_wp2_with fail
          go_meet
          exact ⟨rfl, K1, v1, D1, J, O1, I1, L1, hW, q1, q2, q3, HQ4.out, HQ5.out, by rw [HQ6.out, HWK.out], q7, q8, HQ9.out, q10, HQ11.out⟩
    case rest =>
      obtain ⟨rfl, K1, v1, D1, J, O1, I1, L1, hW, q1, q2, q3, q4, q5, q6, q7, q8, q9, q10, q11⟩ := hcut
      have hJ7 := q4.lJ
      apply hb'
      refine wp_seq_k ?_
      intro Kc' hc
      try dsimp only
      have e24 : K1 24 = some ⟨28, 1, 1, .slice (some ⟨bx, 0, none⟩) 1 1, [.pointer (some ⟨c.C, 0, none⟩)]⟩ := (q4.rD 24 (by omega) (by omega)).trans q9
      have c0 := q3.sep.cell e24 (j := 0) rfl
      have hfull : ∀ u, 1 ≤ u → u < c.N → 0 ≤ d u → u ∈ J := fun u h1 h2 h3 => Inv.full (HG.out.agree q11) q5 hW (fun u x hx => by rw [List.take_length]; exact hx) u u (Nat.le_refl _) h1 h2 h3
      have hwf := workJ_full (W := W) (preds A c.N) q5 hfull
      rw [hwf] at q6
      obtain ⟨tot, htot⟩ : ∃ tot, tot = workTo A (preds A c.N) d W c.N := ⟨_, rfl⟩
      rw [← htot] at q6
      have c30 : wc.cell? ⟨c.C, 30, none⟩ = some (.int .i64 (tot : Int)) := by rw [← q6]; exact q3.hC.cell? 30
      have HQ4 : Hid (Rw c K1 v1 D1 J O1 I1 L1 (100 + 64 * J.length) 0) := q4
      have HQ5 : Hid (Inv A c.N d J O1 I1 (fun _ x => x ∈ J.take J.length)) := q5
      have HQ6 : Hid (v1.work = (tot : Int)) := q6
      have HQ11 : Hid (∀ n, 19 ≤ n → n < 300 → n ≠ 23 → n ≠ 24 → D1 n = D n) := q11
      have HFU : Hid (∀ u, 1 ≤ u → u < c.N → 0 ≤ d u → u ∈ J) := hfull
      have HTO : Hid (tot = workTo A (preds A c.N) d W c.N) := htot
      clear q4 q5 q6 q11 hfull hwf htot
      by_cases hbud : bud < (tot : Int)
      · go_wp2_with fail
        refine bodyPost_ret (v := .bool false) (by simp [results, Yba.results31, go_sem]) rfl ?_
        exact ⟨K1, v1, D1, J, O1, I1, L1, _, 0, q1, q3, HQ4.out, HQ11.out, .inl ⟨rfl, by rw [← HTO.out]; exact hbud⟩⟩
      · have hbud' : ¬ (bud < (tot : Int)) := hbud
        go_cut [4] from 77 to 82 (fun fv wc' => fv = .bool false ∧ wc' = wc)
        case first =>
          go_wp2_with fail
          go_meet
          exact ⟨rfl, rfl⟩
        case rest =>
          obtain ⟨rfl, hcut⟩ := hcut
          subst hcut
          apply hc
          refine spB c K1 D1 v1 _ w J O1 I1 L1 (rkJ J) (100 + 64 * J.length) bx bud _ q3 HQ4.out q7 q8 q9 (by omega) q1 q2 (HQ5.out.geo (HG.out.agree HQ11.out) hJ7) ?_
          intro w' K' v' L' B' a1 a2 a3 a4 a5 a6
          refine ⟨K', v', D1, J, O1, I1, L', B', _, a1, a2, a4, HQ11.out, .inr ⟨rfl, by rw [← HTO.out]; omega, by rw [a3, HQ6.out, HTO.out], HQ5.out.nd, fun u => ⟨fun hu => ⟨(HQ5.out.rng u hu).1, (HQ5.out.rng u hu).2, HQ5.out.dz u hu⟩, fun ⟨h1, h2, h3⟩ => HFU.out u h1 h2 h3⟩, fun u hu => ?_⟩⟩
          exact Inv.lens (HG.out.agree HQ11.out) HQ5.out hW (fun u x hx => by rw [List.take_length]; exact hx) a5 a6 u u (Nat.le_refl _) hu
end Go.Proofs.Ybulkuoc
