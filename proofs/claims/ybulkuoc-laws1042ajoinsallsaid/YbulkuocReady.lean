/- The laws' common road. -/
import Derived.Test.YbulkuocInit
namespace Go.Proofs.Ybulkuoc
open Go.RowKit

theorem nw_facts (n0 w0 N W : Nat) (hN : N = 2 + n0 % 7) (hW : W = 1 + w0 % (N - 1)) : 2 ≤ N ∧ N ≤ 8 ∧ 1 ≤ W ∧ W < N ∧ 2 + (n0 : Int) % 7 = N ∧ wrap64 (1 + (w0 : Int) % ((N : Int) - 1)) = W := by
  have h1 := Nat.mod_lt n0 (show 7 > 0 by omega)
  have h2 := Nat.mod_lt w0 (show N - 1 > 0 by omega)
  have h3 : ((w0 % (N - 1) : Nat) : Int) = (w0 : Int) % ((N : Int) - 1) := by
    rw [Int.natCast_emod]; congr 1; omega
  refine ⟨by omega, by omega, by omega, by omega, by omega, ?_⟩
  rw [← h3]
  unfold wrap64
  omega

/-- What absorb leaves, with the law's own rows. -/
def Out (c : Tc) (ga ca gp cp gd cd W : Nat) (A : Nat → List Nat) (d : Nat → Int) (bud : Int) (w0 w : World) : Prop :=
  ∃ K v J L, Below c.base w0 w ∧ Sep w c.base K ∧ Mat K 19 100 c.N (.slice (some ⟨ga, 0, none⟩) c.N ca) A ∧ Mat K 20 200 c.N (.slice (some ⟨gp, 0, none⟩) c.N cp) (preds A c.N) ∧ K 21 = some ⟨3, 1, c.N, .slice (some ⟨gd, 0, none⟩) c.N cd, rowOf d c.N⟩ ∧
    K 0 = some ⟨21, 1, c.N, c.pl, plRow (plJ J) c.N⟩ ∧ K 1 = some ⟨3, 1, J.length + 2, v.ids, ints (0 :: c.N :: J)⟩ ∧ K 5 = some ⟨4, 1, J.length + 2, v.reached, .bool false :: List.replicate (J.length + 1) (.bool true)⟩ ∧ K 7 = some ⟨3, 1, J.length + 2, v.len, rowOf L (J.length + 2)⟩ ∧ J.length ≤ 7 ∧ workTo A (preds A c.N) d W c.N ≤ 200 ∧
    ((bud < ((workTo A (preds A c.N) d W c.N : Nat) : Int) ∧ v.st = 0 ∧ St c K v w) ∨ (((workTo A (preds A c.N) d W c.N : Nat) : Int) ≤ bud ∧ v.st = 2 ∧ St c K v w ∧ v.work = ((workTo A (preds A c.N) d W c.N : Nat) : Int) ∧ J.Nodup ∧ (∀ u, u ∈ J ↔ 1 ≤ u ∧ u < c.N ∧ 0 ≤ d u) ∧ ∀ u ∈ J, L (pc J u) = d u))

theorem absorb_ready (N W base ga ca gp cp gd cd h q : Nat) (A : Nat → List Nat) (d d4 : Nat → Int) (K : Nat → Option Ent) (w : World) (bud : Int) (hN2 : 2 ≤ N) (hN8 : N ≤ 8) (hW1 : 1 ≤ W) (hWN : W < N)
    (hm1 : Mat K 19 100 N (.slice (some ⟨ga, 0, none⟩) N ca) A) (hm2 : Mat K 20 200 N (.slice (some ⟨gp, 0, none⟩) N cp) (preds A N)) (hA : ∀ y, y < N → RowOk W y (A y)) (hd : DistOk N A d)
    (hK : K 21 = some ⟨3, 1, N, .slice (some ⟨gd, 0, none⟩) N cd, rowOf d N⟩) (hst : St (cst N base h q (.slice (some ⟨ga, 0, none⟩) N ca) (.slice (some ⟨gp, 0, none⟩) N cp)) (k0 K N h q d4) (v0 q) w) (hb : base ≤ w.heap.size) :
    Calls Yba.prog 12 #[.pointer (some ⟨q + 5, 0, none⟩), .int .i64 (W : Nat), .int .i64 bud] w fun e w' => e = .returned (.tuple #[]) ∧ Out (cst N base h q (.slice (some ⟨ga, 0, none⟩) N ca) (.slice (some ⟨gp, 0, none⟩) N cp)) ga ca gp cp gd cd W A d bud w w' := by
  have hD : ∀ n, 19 ≤ n → n < 300 → n ≠ 22 → k1 (k0 K N h q d4) n = K n := fun n h1 h2 h3 => by rw [k1_other _ n h1 h2, k0_other _ _ _ _ _ n h1 h3]
  have hG : Gph (cst N base h q (.slice (some ⟨ga, 0, none⟩) N ca) (.slice (some ⟨gp, 0, none⟩) N cp)) (k1 (k0 K N h q d4)) A W d :=
    ⟨hN2, hN8, hm1.keep (hD 19 (by omega) (by omega) (by omega)) (fun u hu => hD _ (by omega) (by omega) (by omega)), hm2.keep (hD 20 (by omega) (by omega) (by omega)) (fun u hu => hD _ (by omega) (by omega) (by omega)), hA, hd, hW1, hWN⟩
  refine Calls.mono (absorb_calls (cst N base h q (.slice (some ⟨ga, 0, none⟩) N ca) (.slice (some ⟨gp, 0, none⟩) N cp)) _ _ _ w A W d L0 bud hst.k1 (init_rw N base h q _ _ K d4) hb hG rfl rfl rfl rfl rfl) ?_
  rintro e w' ⟨rfl, K', v, D', J, O, I, L, B, m, hbl, hR, hDD, hP⟩
  refine ⟨rfl, ?_⟩
  have hKK : ∀ n, 19 ≤ n → n < 300 → n ≠ 22 → n ≠ 23 → n ≠ 24 → K' n = K n := fun n h1 h2 h3 h4 h5 => (hR.rD n h1 h2).trans ((hDD n h1 h2 h4 h5).trans (hD n h1 h2 h3))
  have g1 : Mat K' 19 100 N (.slice (some ⟨ga, 0, none⟩) N ca) A := hm1.keep (hKK 19 (by omega) (by omega) (by omega) (by omega) (by omega)) (fun u hu => hKK _ (by omega) (by omega) (by omega) (by omega) (by omega))
  have g2 : Mat K' 20 200 N (.slice (some ⟨gp, 0, none⟩) N cp) (preds A N) := hm2.keep (hKK 20 (by omega) (by omega) (by omega) (by omega) (by omega)) (fun u hu => hKK _ (by omega) (by omega) (by omega) (by omega) (by omega))
  have g3 : K' 21 = some ⟨3, 1, N, .slice (some ⟨gd, 0, none⟩) N cd, rowOf d N⟩ := (hKK 21 (by omega) (by omega) (by omega) (by omega) (by omega)).trans hK
  rcases hP with ⟨h1, h2⟩ | ⟨h1, h2, h3⟩
  · exact ⟨K', { v with st := 0 }, J, L, hbl, h2.sep, g1, g2, g3, hR.r0, hR.r1, hR.r5, hR.r7, hR.lJ, workTo_le hG, .inl ⟨h1, rfl, h2⟩⟩
  · exact ⟨K', v, J, L, hbl, h2.sep, g1, g2, g3, hR.r0, hR.r1, hR.r5, hR.r7, hR.lJ, workTo_le hG, .inr ⟨h1, hR.st, h2, h3⟩⟩
end Go.Proofs.Ybulkuoc
