/- LawS1042ABudget: the walk. -/
import Derived.Test.YbulkuocReady
namespace Go.Proofs.Ybulkuoc
open Go.RowKit

set_option maxRecDepth 40000 in
set_option maxHeartbeats 3200000 in
theorem budget_walk (n0 w0 e : Nat) (bud : Int) (hn : n0 ≤ 255) (hw : w0 ≤ 255) (w : World) :
    Calls Yba.prog 4 #[.int .u8 (n0 : Nat), .int .u8 (w0 : Nat), .int .u64 (e : Nat), .int .i64 bud] w fun r w' => r = .returned (.bool true) ∧ Below w.heap.size w w' := by
  obtain ⟨N, hN⟩ : ∃ N, N = 2 + n0 % 7 := ⟨_, rfl⟩
  obtain ⟨W, hW⟩ : ∃ W, W = 1 + w0 % (N - 1) := ⟨_, rfl⟩
  obtain ⟨hN2, hN8, hW1, hWN, e1, e2⟩ := nw_facts n0 w0 N W hN hW
  have E1 : Hid (2 + (n0 : Int) % 7 = N) := e1
  have E2 : Hid (wrap64 (1 + (w0 : Int) % ((N : Int) - 1)) = W) := e2
  clear hN hW e1 e2
  have hs0 := Sep.none w
  obtain ⟨base, hbase⟩ : ∃ base, base = w.heap.size := ⟨_, rfl⟩
  rw [← hbase] at hs0 ⊢
  have hb0 : base ≤ w.heap.size := by omega
  clear hbase
  go_enter Yba.func4, Yba.ntmps4
  go_upto_region 3 with fail
  rw [E1.out, E2.out]
  go_upto_region 4 with (go_at_call 8; refine Calls.mono (adj_calls N W e base 19 100 _ w hN8 hN2 hW1 hb0 hs0 (by omega)) ?_; rintro r w1 ⟨ga, ca, rfl, hb1, K1, hs1, ho1, A, hm1, hA⟩)
  have hz1 : base ≤ w1.heap.size := by have := hb1.size; omega
  go_upto_region 5 with (go_at_call 9; refine Calls.mono (pred_calls N W base ga ca A K1 w1 hN8 hN2 hz1 hs1 hm1 hA) ?_; rintro r w2 ⟨gp, cp, rfl, hb2, K2, hs2, ho2, hm2⟩)
  have hz2 : base ≤ w2.heap.size := by have := hb2.size; omega
  have hm12 : Mat K2 19 100 N (.slice (some ⟨ga, 0, none⟩) N ca) A := hm1.keep (ho2 19 (by omega) (by omega)) (fun u hu => ho2 _ (by omega) (by omega))
  have ht2 : ∀ k e, K2 k = some e → TyOk e.t := mat_ty (mat_ty (by simp) ho1 hm1) ho2 hm2
  have hb02 := hb1.trans hb2
  clear hb1 hb2 hs1 ho1 ho2 hm1
  go_upto_region 6 with (go_at_call 10; refine Calls.mono (dist_calls N W base ga ca A K2 w2 hN8 hN2 hz2 hs2 hm12 hA) ?_; rintro r w3 ⟨gd, cd, rfl, hb3, d, hd, hs3⟩)
  have hz3 : base ≤ w3.heap.size := by have := hb3.size; omega
  have ht3 := upd_ty ht2 21 ⟨3, 1, N, .slice (some ⟨gd, 0, none⟩) N cd, rowOf d N⟩ ty3
  have hm1 := hm12.keep (K' := upd K2 21 ⟨3, 1, N, .slice (some ⟨gd, 0, none⟩) N cd, rowOf d N⟩) (upd_other _ _ (by omega)) (fun u hu => upd_other _ _ (by omega))
  have hm3 := hm2.keep (K' := upd K2 21 ⟨3, 1, N, .slice (some ⟨gd, 0, none⟩) N cd, rowOf d N⟩) (upd_other _ _ (by omega)) (fun u hu => upd_other _ _ (by omega))
  have hb03 := hb02.trans hb3
  go_upto_region 7 with (go_at_call 11; refine Calls.mono (build_calls N base ga ca gp cp _ w3 hN8 hN2 hz3 hs3 ht3) ?_; rintro r w4 ⟨h, q, q1, q2, q3, rfl, hb4, d4, hs4⟩)
  have hz4 : base ≤ w4.heap.size := by have := hb4.size; omega
  have hb04 := hb03.trans hb4
  have hab := absorb_ready N W base ga ca gp cp gd cd h q A d d4 _ w4 bud hN2 hN8 hW1 hWN hm1 hm3 hA hd (upd_same _ _ _) hs4 hz4
  clear hs0 hs2 hs3 hm12 hm2 hm1 hm3 hs4 ht2 ht3 hb02 hb03 hb3 hb4
  go_upto_region 8 with (go_at_call 12; refine Calls.mono hab ?_; rintro r w5 ⟨rfl, hO⟩)
  obtain ⟨K, v, J, L, hb5, hs5, g1, g2, g3, _, _, _, _, _, hle, hP⟩ := hO
  have hAl : ∀ y, y < N → (A y).length ≤ 8 := fun y hy => by have := (hA y hy).len; omega
  have hwk := work_calls N W base ga ca gp cp gd cd A (preds A N) d K w5 hN8 hW1 hWN hs5 g1 g2 g3 hAl (fun y hy => by have := preds_length A N y; omega)
  have hb05 := hb04.trans hb5
  dsimp only [cst] at hP hle
  obtain ⟨T, hT⟩ : ∃ T, T = workTo A (preds A N) d W N := ⟨_, rfl⟩
  rw [← hT] at hP hle hwk
  clear hab hs5 g1 g2 g3 hT
  rcases hP with ⟨h1, h2, h3⟩ | ⟨h1, h2, h3, _⟩
  · have c28 : w5.cell? ⟨q + 5, 28, none⟩ = some (.int .u8 0) := by rw [← h2]; exact h3.hC.cell? 28
    go_wp2_with (go_at_call 13; refine Calls.mono hwk ?_; rintro r w6 ⟨rfl, rfl⟩)
    go_ret
    exact ⟨rfl, hb05⟩
  · have c28 : w5.cell? ⟨q + 5, 28, none⟩ = some (.int .u8 2) := by rw [← h2]; exact h3.hC.cell? 28
    have h1' : ¬ bud < (T : Int) := by omega
    go_wp2_with (go_at_call 13; refine Calls.mono hwk ?_; rintro r w6 ⟨rfl, rfl⟩)
    go_ret
    exact ⟨rfl, hb05⟩
end Go.Proofs.Ybulkuoc
