/- LawS1042AJoinsAll: the walk. -/
import Derived.Test.YbulkuocReady
import Derived.BigQuiet
namespace Go.Proofs.Ybulkuoc
open Go.RowKit

/-- How many of 1 .. u-1 have a distance. -/
def cntTo (d : Nat → Int) (u : Nat) : Nat := ((List.range' 1 (u - 1)).filter (fun x => decide (0 ≤ d x))).length
theorem cntTo_le (d : Nat → Int) (u : Nat) : cntTo d u ≤ u - 1 := by
  have := List.length_filter_le (fun x => decide (0 ≤ d x)) (List.range' 1 (u - 1))
  simpa [cntTo] using this
theorem cntTo_succ (d : Nat → Int) {u : Nat} (hu : 1 ≤ u) : cntTo d (u + 1) = cntTo d u + if 0 ≤ d u then 1 else 0 := by
  unfold cntTo
  rw [show u + 1 - 1 = (u - 1) + 1 by omega, List.range'_1_concat, List.filter_append, List.length_append, show 1 + (u - 1) = u by omega]
  by_cases h : 0 ≤ d u <;> simp [h]
theorem cnt_all {d : Nat → Int} {J : List Nat} {N : Nat} (hnd : J.Nodup) (hJ : ∀ u, u ∈ J ↔ 1 ≤ u ∧ u < N ∧ 0 ≤ d u) : J.length = cntTo d N := by
  apply Nat.le_antisymm
  · refine nodup_len hnd (fun x hx => ?_)
    obtain ⟨h1, h2, h3⟩ := (hJ x).1 hx
    simp only [List.mem_filter, List.mem_range'_1, decide_eq_true_eq]
    exact ⟨by omega, h3⟩
  · refine nodup_len (List.Pairwise.filter _ (List.nodup_range' (step := 1))) (fun x hx => ?_)
    simp only [List.mem_filter, List.mem_range'_1, decide_eq_true_eq] at hx
    exact (hJ x).2 ⟨by omega, by omega, hx.2⟩

set_option maxRecDepth 40000 in
set_option maxHeartbeats 3200000 in
theorem joins_walk (n0 w0 e : Nat) (hn : n0 ≤ 255) (hw : w0 ≤ 255) (w : World) :
    Calls Yba.prog 3 #[.int .u8 (n0 : Nat), .int .u8 (w0 : Nat), .int .u64 (e : Nat)] w fun r w' => r = .returned (.bool true) ∧ Below w.heap.size w w' := by
  obtain ⟨N, hN⟩ : ∃ N, N = 2 + n0 % 7 := ⟨_, rfl⟩
  obtain ⟨W, hW⟩ : ∃ W, W = 1 + w0 % (N - 1) := ⟨_, rfl⟩
  obtain ⟨hN2, hN8, hW1, hWN, e1, e2⟩ := nw_facts n0 w0 N W hN hW
  have E1 : Hid (2 + (n0 : Int) % 7 = N) := e1
  have E2 : Hid (wrap64 (1 + (w0 : Int) % ((N : Int) - 1)) = W) := e2
  clear hN hW e1 e2
  have hs0 := Sep.none w
  obtain ⟨base, hbase⟩ : ∃ base, base = w.heap.size := ⟨_, rfl⟩
  rw [← hbase] at hs0 ⊢
  have hb0 : base ≤ w.heap.size := by omega
  clear hbase
  go_enter Yba.func3, Yba.ntmps3
  go_upto_region 3 with fail
  rw [E1.out, E2.out]
  go_upto_region 4 with (go_at_call 8; refine Calls.mono (adj_calls N W e base 19 100 _ w hN8 hN2 hW1 hb0 hs0 (by omega)) ?_; rintro r w1 ⟨ga, ca, rfl, hb1, K1, hs1, ho1, A, hm1, hA⟩)
  have hz1 : base ≤ w1.heap.size := by have := hb1.size; omega
  go_upto_region 5 with (go_at_call 9; refine Calls.mono (pred_calls N W base ga ca A K1 w1 hN8 hN2 hz1 hs1 hm1 hA) ?_; rintro r w2 ⟨gp, cp, rfl, hb2, K2, hs2, ho2, hm2⟩)
  have hz2 : base ≤ w2.heap.size := by have := hb2.size; omega
  have hm12 : Mat K2 19 100 N (.slice (some ⟨ga, 0, none⟩) N ca) A := hm1.keep (ho2 19 (by omega) (by omega)) (fun u hu => ho2 _ (by omega) (by omega))
  have ht2 : ∀ k e, K2 k = some e → TyOk e.t := mat_ty (mat_ty (by simp) ho1 hm1) ho2 hm2
  have hb02 := hb1.trans hb2
  clear hb1 hb2 hs1 ho1 ho2 hm1
  go_upto_region 6 with (go_at_call 10; refine Calls.mono (dist_calls N W base ga ca A K2 w2 hN8 hN2 hz2 hs2 hm12 hA) ?_; rintro r w3 ⟨gd, cd, rfl, hb3, d, hd, hs3⟩)
  have hz3 : base ≤ w3.heap.size := by have := hb3.size; omega
  have ht3 := upd_ty ht2 21 ⟨3, 1, N, .slice (some ⟨gd, 0, none⟩) N cd, rowOf d N⟩ ty3
  have hm1 := hm12.keep (K' := upd K2 21 ⟨3, 1, N, .slice (some ⟨gd, 0, none⟩) N cd, rowOf d N⟩) (upd_other _ _ (by omega)) (fun u hu => upd_other _ _ (by omega))
  have hm3 := hm2.keep (K' := upd K2 21 ⟨3, 1, N, .slice (some ⟨gd, 0, none⟩) N cd, rowOf d N⟩) (upd_other _ _ (by omega)) (fun u hu => upd_other _ _ (by omega))
  have hb03 := hb02.trans hb3
  go_upto_region 7 with (go_at_call 11; refine Calls.mono (build_calls N base ga ca gp cp _ w3 hN8 hN2 hz3 hs3 ht3) ?_; rintro r w4 ⟨h, q, q1, q2, q3, rfl, hb4, d4, hs4⟩)
  have hz4 : base ≤ w4.heap.size := by have := hb4.size; omega
  have hb04 := hb03.trans hb4
  have hab := absorb_ready N W base ga ca gp cp gd cd h q A d d4 _ w4 1073741824 hN2 hN8 hW1 hWN hm1 hm3 hA hd (upd_same _ _ _) hs4 hz4
  clear hs0 hs2 hs3 hm12 hm2 hm1 hm3 hs4 ht2 ht3 hb02 hb03 hb3 hb4
  go_upto_region 8 with (go_at_call 12; refine Calls.mono hab ?_; rintro r w5 ⟨rfl, hO⟩)
  obtain ⟨K, v, J, L, hb5, hs5, g1, g2, g3, k0, k1, k5, k7, hJl, hle, hP⟩ := hO
  have hAl : ∀ y, y < N → (A y).length ≤ 8 := fun y hy => by have := (hA y hy).len; omega
  have HWK : Hid (∀ w6, St (cst N base h q (.slice (some ⟨ga, 0, none⟩) N ca) (.slice (some ⟨gp, 0, none⟩) N cp)) K v w6 → Calls Yba.prog 13 #[.int .i64 (N : Nat), .int .i64 (W : Nat), .slice (some ⟨ga, 0, none⟩) N ca, .slice (some ⟨gp, 0, none⟩) N cp, .slice (some ⟨gd, 0, none⟩) N cd] w6 fun r w' => r = .returned (.int .i64 (workTo A (preds A N) d W N : Nat)) ∧ w' = w6) := fun w6 h6 => work_calls N W base ga ca gp cp gd cd A (preds A N) d K w6 hN8 hW1 hWN h6.sep g1 g2 g3 hAl (fun y hy => by have := preds_length A N y; omega)
  have hb05 := hb04.trans hb5
  dsimp only [cst] at hP hle k0 g3
  obtain ⟨T, hT⟩ : ∃ T, T = workTo A (preds A N) d W N := ⟨_, rfl⟩
  rw [← hT] at hP hle HWK
  clear hab g1 g2 hT hb04 hb5 hAl
  obtain ⟨h1, h2, h3, h4, h5, h6, h7⟩ := hP.resolve_left (fun hx => by have := hx.1; omega)
  clear hP h1
  obtain ⟨gI, cI, hidv, _⟩ := h3.sep.form k1 |>.2 |>.resolve_left (by rintro ⟨_, hx⟩; simp at hx)
  obtain ⟨gL, cL, hlnv, _⟩ := h3.sep.form k7 |>.2 |>.resolve_left (by rintro ⟨_, hx⟩; simp at hx)
  obtain ⟨gR, cR, hrev, _⟩ := h3.sep.form k5 |>.2 |>.resolve_left (by rintro ⟨_, hx⟩; simp at hx)
  dsimp only at hidv hlnv hrev
  rw [hidv] at k1
  rw [hlnv] at k7
  rw [hrev] at k5
  have hz5 : base ≤ w5.heap.size := by have := hb05.size; omega
  have HC : Hid (J.length = cntTo d N) := cnt_all h5 h6
  have H6 : Hid (∀ u, u ∈ J ↔ 1 ≤ u ∧ u < N ∧ 0 ≤ d u) := h6
  have H7 : Hid (∀ u ∈ J, L (pc J u) = d u) := h7
  have HD : Hid (DistOk N A d) := hd
  have HA : Hid (∀ y, y < N → RowOk W y (A y)) := hA
  clear h5 h6 h7 hd hA hs5
  have c28 : w5.cell? ⟨q + 5, 28, none⟩ = some (.int .u8 2) := by rw [← h2]; exact h3.hC.cell? 28
  go_wp2_with fail
  go_loopw [13, 14] (fun cv uv wr => ∃ u : Nat, 1 ≤ u ∧ u ≤ N ∧ uv = .int .i64 u ∧ cv = .int .i64 (cntTo d u : Nat) ∧ Below base w wr ∧ base ≤ wr.heap.size ∧ St (cst N base h q (.slice (some ⟨ga, 0, none⟩) N ca) (.slice (some ⟨gp, 0, none⟩) N cp)) K v wr) (fun _ uv _ => N - (intOf uv).toNat)
  case atStart => exact ⟨1, Nat.le_refl _, by omega, rfl, rfl, hb05, hz5, h3⟩
  case round =>
    clear h3 hb05 hz5 c28
    obtain ⟨u, hu1, huN, rfl, rfl, hbr, hzr, hst⟩ := hrel
    have hcl := cntTo_le d u
    have hcs := cntTo_succ d hu1
    by_cases hul : u < N
    · have hul' : (u : Int) < (N : Int) := by omega
      have c1 : wr.cell? ⟨q + 5, 1, none⟩ = some (.slice (some ⟨q, 0, none⟩) N N) := hst.hC.cell? 1
      have cd := hst.sep.cell g3 (rowOf_get d hul)
      have cp := hst.sep.cell k0 (plRow_get (plJ J) hul)
      by_cases hdu : d u < 0
      · have hnJ : u ∉ J := fun hx => by have := ((H6.out u).1 hx).2.2; omega
        rw [show plJ J u = 0 by unfold plJ; rw [if_neg (by omega), if_neg hnJ]] at cp
        rw [if_neg (by omega)] at hcs
        go_wp2_with fail
        exact ⟨⟨u + 1, by omega, by omega, by go_num, by rw [hcs]; rfl, hbr, hzr, hst⟩, by simp [intOf]; omega⟩
      · have hJ : u ∈ J := (H6.out u).2 ⟨hu1, hul, by omega⟩
        rw [if_pos (by omega)] at hcs
        obtain ⟨i, hi⟩ : ∃ i, i = J.idxOf u := ⟨_, rfl⟩
        have hil : i < J.length := by rw [hi]; exact List.idxOf_lt_length_of_mem hJ
        have hJi : J[i]? = some u := by
          rw [List.getElem?_eq_getElem hil]
          exact congrArg some (by subst hi; exact List.getElem_idxOf hil)
        have hLi : L (i + 2) = d u := by
          have := H7.out u hJ
          unfold pc at this
          rwa [if_neg (by omega), ← hi] at this
        rw [show plJ J u = i + 3 by unfold plJ; rw [if_neg (by omega), if_pos hJ, ← hi]] at cp
        have d6 : wr.cell? ⟨q + 5, 6, none⟩ = some (.slice (some ⟨gI, 0, none⟩) (J.length + 2) cI) := by rw [← hidv]; exact hst.hC.cell? 6
        have d18 : wr.cell? ⟨q + 5, 18, none⟩ = some (.pointer (some ⟨q + 3, 0, none⟩)) := hst.hC.cell? 18
        have d15 : wr.cell? ⟨q + 5, 15, none⟩ = some (.pointer (some ⟨q + 2, 0, none⟩)) := hst.hC.cell? 15
        have d2 : wr.cell? ⟨q + 3, 2, none⟩ = some (.slice (some ⟨gL, 0, none⟩) (J.length + 2) cL) := by rw [← hlnv]; exact hst.hTT.cell? 2
        have d0 : wr.cell? ⟨q + 2, 0, none⟩ = some (.slice (some ⟨gR, 0, none⟩) (J.length + 2) cR) := by rw [← hrev]; exact hst.hBT.cell? 0
        have x1 : wr.cell? ⟨gI, i + 2, none⟩ = some (.int .i64 (u : Int)) := hst.sep.cell k1 (ints_at (l := 0 :: N :: J) (by simpa using hJi))
        have x7 : wr.cell? ⟨gL, i + 2, none⟩ = some (.int .i64 (d u)) := by
          have := hst.sep.cell k7 (rowOf_get L (u := i + 2) (by omega))
          rwa [hLi] at this
        have x5 : wr.cell? ⟨gR, i + 2, none⟩ = some (.bool true) := hst.sep.cell k5 (by rw [List.getElem?_cons_succ, List.getElem?_replicate, if_pos (by omega)])
        have HPV : Hid ((i : Int) + 3 - 1 = (i : Int) + 2) := by show (i : Int) + 3 - 1 = (i : Int) + 2; omega
        have hi0 : (0 : Int) ≤ (i : Int) + 2 := by omega
        have htn : ((i : Int) + 2).toNat = i + 2 := by omega
        have hpl : (i : Int) + 2 < (J.length : Int) + 2 := by omega
        have hp2 : decide ((i : Int) + 2 < 2) = false := by simp; omega
        have hpg : decide ((J.length : Int) + 2 ≤ (i : Int) + 2) = false := by simp; omega
        clear hi hLi hJi
        go_upto_region 19 with fail
        rw [HPV.out]
        go_quiet (fail)
        go_wp2_with fail
        exact ⟨⟨u + 1, by omega, by omega, by go_num, by rw [hcs]; go_num, below_drewN hbr nq, hzr, hst.drewN nq⟩, by simp [intOf]; omega⟩
    · have hul' : ¬ ((u : Int) < (N : Int)) := by omega
      have huu : u = N := by omega
      subst huu
      have d6 : wr.cell? ⟨q + 5, 6, none⟩ = some (.slice (some ⟨gI, 0, none⟩) (J.length + 2) cI) := by rw [← hidv]; exact hst.hC.cell? 6
      have d30 : wr.cell? ⟨q + 5, 30, none⟩ = some (.int .i64 (T : Int)) := by rw [← h4]; exact hst.hC.cell? 30
      rw [← HC.out]
      have hct : (2 : Int) + (J.length : Int) = (J.length : Int) + 2 := by omega
      go_upto_region 23 with fail
      go_quiet ((go_at_call 13; exact Calls.quiet_of_same (HWK.out _ (hst.drewN _))))
      go_wp2_with fail
      go_ret
      exact ⟨rfl, below_drewN hbr nq⟩
end Go.Proofs.Ybulkuoc
