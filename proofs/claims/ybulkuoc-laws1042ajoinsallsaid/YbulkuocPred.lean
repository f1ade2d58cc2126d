/- zzs1042apred. -/
import Derived.Test.YbulkuocAdj
namespace Go.Proofs.Ybulkuoc
open Go.RowKit

/-- The rows turned round. -/
def preds (A : Nat → List Nat) (n x : Nat) : List Nat := (List.range n).filter (fun u => decide (x ∈ A u))
theorem preds_succ (A : Nat → List Nat) (n x : Nat) : preds A (n + 1) x = if x ∈ A n then preds A n x ++ [n] else preds A n x := by
  unfold preds
  rw [List.range_succ, List.filter_append]
  by_cases h : x ∈ A n <;> simp [h]
theorem preds_mem (A : Nat → List Nat) (n x u : Nat) : u ∈ preds A n x ↔ u < n ∧ x ∈ A u := by simp [preds]
theorem preds_nodup (A : Nat → List Nat) (n x : Nat) : (preds A n x).Nodup := List.nodup_range.filter _
theorem preds_length (A : Nat → List Nat) (n x : Nat) : (preds A n x).length ≤ n := by
  have := List.length_filter_le (fun u => decide (x ∈ A u)) (List.range n)
  simpa [preds] using this

theorem Sep.shape {w : World} {base : Nat} {K : Nat → Option Ent} (hs : Sep w base K) {k t s n : Nat} {v : Value} {xs : List Value} (hk : K k = some ⟨t, s, n, v, xs⟩) : ∃ ra rc, v = .slice ra n rc ∧ (0 < n → ∃ g, ra = some ⟨g, 0, none⟩) := by
  obtain ⟨_, h⟩ := hs.form hk
  rcases h with ⟨h1, h2⟩ | ⟨g, c, h1, _⟩
  · have h1' : v = .slice none 0 0 := h1
    have h2' : n = 0 := h2
    subst h2'
    exact ⟨none, 0, h1', fun h => absurd h (Nat.lt_irrefl _)⟩
  · exact ⟨_, c, h1, fun _ => ⟨g, rfl⟩⟩

set_option maxRecDepth 10000 in
set_option maxHeartbeats 1600000 in
theorem pred_calls (N W base ga ca : Nat) (A : Nat → List Nat) (K : Nat → Option Ent) (w : World) (hN : N ≤ 8) (hN2 : 2 ≤ N) (hb : base ≤ w.heap.size) (hs : Sep w base K) (hm : Mat K 19 100 N (.slice (some ⟨ga, 0, none⟩) N ca) A) (hA : ∀ y, y < N → RowOk W y (A y)) :
    Calls Yba.prog 9 #[.int .i64 (N : Nat), .slice (some ⟨ga, 0, none⟩) N ca] w fun r w' => ∃ g c, r = .returned (.slice (some ⟨g, 0, none⟩) N c) ∧ Below base w w' ∧ ∃ K', Sep w' base K' ∧ Off 20 200 N K K' ∧ Mat K' 20 200 N (.slice (some ⟨g, 0, none⟩) N c) (preds A N) := by
  have hmk : ∀ w, (Instr.makeSlice 23 (.int .i64 (N : Int)) (.int .i64 (N : Int))).run Yba.prog w = .ok (.slice (some ⟨w.heap.size, 0, none⟩) N N) (w.alloc (.cells (madeCells #[.slice none 0 0] N) 26)) :=
    fun w => run_make_row' 23 26 (.slice none 0 0) 24 Yba.underlying23 info26 rfl .i64 .i64 N (by omega) (by omega) w
  have hko : ∀ y, y < N → 20 ≠ 200 + y := fun y _ => by omega
  have hsM := (hs.nilRows 3 200 N).made 26 (.slice none 0 0) N 20 hb (by unfold maxLen; omega)
  go_enter Yba.func9, Yba.ntmps9
  go_wp2_with fail
  generalize hg : w.heap.size = g at *
  go_loopw [6] (fun uv wr => ∃ (u : Nat) (K' : Nat → Option Ent), u ≤ N ∧ uv = .int .i64 u ∧ Below base w wr ∧ Sep wr base K' ∧ Mat K' 20 200 N (.slice (some ⟨g, 0, none⟩) N N) (preds A u) ∧ Off 20 200 N K K') (fun uv _ => N - (intOf uv).toNat)
  case atStart =>
    refine ⟨0, _, by omega, rfl, (Below.refl _ _).alloc (by rw [hg]; exact hb) _, hsM, ⟨_, upd_same _ _ _, ?_⟩, ?_⟩
    · intro u hu
      refine ⟨.slice none 0 0, by simp [hu], ?_⟩
      rw [upd_other _ _ (Ne.symm (hko u hu))]
      rw [if_pos (by omega)]
      rfl
    · intro x h1 h2
      rw [upd_other _ _ h1]
      rw [if_neg h2]
  case round =>
    obtain ⟨u, K1, huN, rfl, hbl, hs1, hm1, hoff⟩ := hrel
    by_cases hu : u < N
    · have hu' : (u : Int) < (N : Int) := by omega
      have hmA : Mat K1 19 100 N (.slice (some ⟨ga, 0, none⟩) N ca) A := hm.keep (hoff 19 (by omega) (by omega)) (fun y hy => hoff (100 + y) (by omega) (by omega))
      obtain ⟨r, cr, hr⟩ := hmA.row hs1 hu
      have hl8 := (hA u hu).len
      have HA : Hid (∀ y, y < N → RowOk W y (A y)) := hA
      obtain ⟨ra, rc, rfl, hra⟩ := hs1.shape hr
      have hrK : K (100 + u) = some ⟨3, 1, (A u).length, .slice ra (A u).length rc, ints (A u)⟩ := (hoff (100 + u) (by omega) (by omega)).symm.trans hr
      go_wp2_with fail
      go_loopw [21] (fun jv wq => ∃ (j : Nat) (K' : Nat → Option Ent), j ≤ (A u).length ∧ jv = .int .i64 j ∧ Below base w wq ∧ Sep wq base K' ∧ Mat K' 20 200 N (.slice (some ⟨g, 0, none⟩) N N) (fun x => preds A u x ++ if x ∈ (A u).take j then [u] else []) ∧ Off 20 200 N K K') (fun jv _ => (A u).length - (intOf jv).toNat)
      case atStart => exact ⟨0, K1, Nat.zero_le _, rfl, hbl, hs1, hm1.congr (fun x _ => by simp), hoff⟩
      case round =>
        clear hbl hs1 hm1 hoff hmA cr hr
        obtain ⟨j, K2, hj, rfl, hbl, hs1, hm1, hoff⟩ := hrel
        have hbw : base ≤ wr.heap.size := by have := hbl.size; omega
        by_cases hjl : j < (A u).length
        · have hjl' : (j : Int) < ((A u).length : Int) := by omega
          obtain ⟨gr, rfl⟩ := hra (by omega)
          have hr2 : K2 (100 + u) = some ⟨3, 1, (A u).length, .slice (some ⟨gr, 0, none⟩) (A u).length rc, ints (A u)⟩ := (hoff (100 + u) (by omega) (by omega)).trans hrK
          obtain ⟨x, hx⟩ : ∃ x, (A u)[j]? = some x := ⟨_, List.getElem?_eq_getElem hjl⟩
          have hxA : x ∈ A u := List.mem_of_getElem? hx
          have hxu := ((HA.out u hu).lt x hxA).1
          have hxN : x < N := by omega
          have hx' : (x : Int) < (N : Int) := by omega
          have cx := hs1.cell hr2 (ints_at hx)
          obtain ⟨r, cr, hr⟩ := hm1.row hs1 hxN
          have hnot : x ∉ (A u).take j := by
            intro h
            have hnd := (HA.out u hu).nd
            rw [← List.take_append_drop j (A u), List.nodup_append] at hnd
            have h2 : x ∈ (A u).drop j := List.mem_of_getElem? (i := 0) (by rw [List.getElem?_drop]; exact hx)
            exact hnd.2.2 x h x h2 rfl
          have hpl := preds_length A u x
          have hlen : (preds A u x ++ if x ∈ List.take j (A u) then [u] else []).length = (preds A u x).length := by rw [if_neg hnot]; simp
          go_wp2_with (first
            | (at_builtin; refine wpList_app1 _ rfl _ _ 26 rfl (hs1.alloc _) hr Yba.underlying26 info3 rfl rfl wr.heap.size 1 (.int .i64 (u : Int)) rfl (by simp) rfl (by omega) (by omega) (by simp; omega) ?_; intro g2 c2 w2 hs2 hg2 hb2; obtain ⟨⟨r2, cc⟩, ff, hbg, K3, hs3, hm3, hk3⟩ := Mat.push hm1 hxN hko hs2)
            | fail)
          simp only [hlen] at hs3
          have htk : (A u).take (j + 1) = (A u).take j ++ [x] := by rw [List.take_add_one, hx]; rfl
          refine ⟨⟨j + 1, K3, by omega, by go_num, (((hbl.alloc hbw _).trans hb2).setCell hbg _), hs3, hm3.congr ?_, fun z h1 h2 => (hk3 z h1 (by omega)).trans (hoff z h1 h2)⟩, by simp [intOf]; omega⟩
          intro y hy
          rw [htk]
          by_cases e : y = x
          · subst e
            simp [hnot]
          · simp [e]
        · have hjl' : ¬ ((j : Int) < ((A u).length : Int)) := by omega
          go_wp2_with fail
          go_roundw
          case rel =>
            refine ⟨u + 1, K2, by omega, by go_num, hbl, hs1, hm1.congr (fun x _ => ?_), hoff⟩
            have e : (A u).take j = A u := List.take_of_length_le (by omega)
            rw [preds_succ, e]
            split <;> simp
          case measure => simp [intOf]; omega
    · have hu' : ¬ ((u : Int) < (N : Int)) := by omega
      have huN' : u = N := by omega
      subst huN'
      go_wp2_with fail
      go_ret
      exact ⟨g, u, rfl, hbl, K1, hs1, hoff, hm1⟩
end Go.Proofs.Ybulkuoc
