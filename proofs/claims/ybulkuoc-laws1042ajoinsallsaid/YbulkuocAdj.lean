/- zzs1042aadj. -/
import Derived.Test.YbulkuocMat
import Derived.Deep.CutBlock
namespace Go.Proofs.Ybulkuoc
open Go.RowKit

/-- What the law needs of node y's row of edges: they lead to lower nodes, each once; node 0's only from W. -/
structure RowOk (W y : Nat) (l : List Nat) : Prop where
  lt : ∀ x ∈ l, x < y ∧ (x = 0 → y = W)
  nd : l.Nodup
  w0 : y = W → 0 ∈ l
  len : l.length ≤ y
/-- The names' frame of a matrix. -/
def Off (ko kr N : Nat) (K K' : Nat → Option Ent) : Prop := ∀ x, x ≠ ko → ¬ (kr ≤ x ∧ x < kr + N) → K' x = K x

theorem grown_drew {w w' : World} {r : Option Nat} (h : w.drew.grownBy w' r) : w.grownBy w' r := ⟨h.os, h.tape, h.output, h.size, h.block⟩

set_option maxRecDepth 10000 in
set_option maxHeartbeats 1600000 in
theorem adj_calls (N W e base ko kr : Nat) (K : Nat → Option Ent) (w : World) (hN : N ≤ 8) (hN2 : 2 ≤ N) (hW : 1 ≤ W) (hb : base ≤ w.heap.size) (hs : Sep w base K) (hko : ∀ y, y < N → ko ≠ kr + y) :
    Calls Yba.prog 8 #[.int .i64 (N : Nat), .int .u64 (e : Nat), .int .i64 (W : Nat)] w fun r w' => ∃ g c, r = .returned (.slice (some ⟨g, 0, none⟩) N c) ∧ Below base w w' ∧ ∃ K', Sep w' base K' ∧ Off ko kr N K K' ∧ ∃ A, Mat K' ko kr N (.slice (some ⟨g, 0, none⟩) N c) A ∧ ∀ y, y < N → RowOk W y (A y) := by
  have hmk : ∀ w, (Instr.makeSlice 23 (.int .i64 (N : Int)) (.int .i64 (N : Int))).run Yba.prog w = .ok (.slice (some ⟨w.heap.size, 0, none⟩) N N) (w.alloc (.cells (madeCells #[.slice none 0 0] N) 26)) :=
    fun w => run_make_row' 23 26 (.slice none 0 0) 24 Yba.underlying23 info26 rfl .i64 .i64 N (by omega) (by omega) w
  have hsM := (hs.nilRows 3 kr N).made 26 (.slice none 0 0) N ko hb (by unfold maxLen; omega)
  go_enter Yba.func8, Yba.ntmps8
  go_wp2_with fail
  generalize hg : w.heap.size = g at *
  go_loopw [8] (fun uv wr => ∃ (u : Nat) (K' : Nat → Option Ent) (A : Nat → List Nat), 1 ≤ u ∧ u ≤ N ∧ uv = .int .i64 u ∧ Below base w wr ∧ Sep wr base K' ∧ Mat K' ko kr N (.slice (some ⟨g, 0, none⟩) N N) A ∧ Off ko kr N K K' ∧ (∀ y, y < u → RowOk W y (A y)) ∧ ∀ y, u ≤ y → A y = []) (fun uv _ => N - (intOf uv).toNat)
  case atStart =>
    refine ⟨1, _, fun _ => [], Nat.le_refl _, by omega, rfl, (Below.refl _ _).alloc (by rw [hg]; exact hb) _, hsM, ⟨_, upd_same _ _ _, ?_⟩, ?_, ?_, fun _ _ => rfl⟩
    · intro u hu
      refine ⟨.slice none 0 0, by simp [hu], ?_⟩
      rw [upd_other _ _ (Ne.symm (hko u hu))]
      rw [if_pos (by omega)]
      rfl
    · intro x h1 h2
      rw [upd_other _ _ h1]
      rw [if_neg h2]
    · intro y hy
      obtain rfl : y = 0 := by omega
      exact ⟨by simp, by simp, by omega, by simp⟩
  case round =>
    obtain ⟨u, K1, A, hu1, huN, rfl, hbl, hs1, hm1, hoff, hrows, hrest⟩ := hrel
    by_cases hu : u < N
    · have hu' : (u : Int) < (N : Int) := by omega
      go_upto_if 19 with fail
      go_cut [9] from 19 to 28 (fun _ wc => ∃ (K' : Nat → Option Ent) (A' : Nat → List Nat), Below base w wc ∧ Sep wc base K' ∧ Mat K' ko kr N (.slice (some ⟨g, 0, none⟩) N N) A' ∧ Off ko kr N K K' ∧ (∀ y, y < u → RowOk W y (A' y)) ∧ (∀ y, u < y → A' y = []) ∧ (∀ x ∈ A' u, x < 1 ∧ (x = 0 → u = W)) ∧ (A' u).Nodup ∧ (u = W → 0 ∈ A' u) ∧ (A' u).length ≤ 1)
      case first =>
        obtain ⟨r, cr, hr⟩ := hm1.row hs1 hu
        have hAu : A u = [] := hrest u (Nat.le_refl _)
        have hAl : (A u).length = 0 := by rw [hAu]; rfl
        by_cases huW : u = W
        · subst huW
          have hbw : base ≤ wr.heap.size := by have := hbl.size; omega
          go_wp2_with (first
            | (at_builtin; refine wpList_app1 _ rfl _ _ 26 rfl (hs1.alloc _) hr Yba.underlying26 info3 rfl rfl wr.heap.size 1 (.int .i64 ((0 : Nat) : Int)) rfl (by simp) rfl (by omega) (by omega) (by simp; omega) ?_; intro g2 c2 w2 hs2 hg2 hb2; obtain ⟨⟨r2, cc⟩, ff, hbg, K2, hs3, hm3, hk3⟩ := Mat.push hm1 hu hko hs2)
            | fail)
          go_meet
          simp only [hAl, Nat.zero_add] at hs3
          refine ⟨K2, _, (((hbl.alloc hbw _).trans hb2).setCell hbg _), hs3, hm3, fun x h1 h2 => (hk3 x h1 (by omega)).trans (hoff x h1 h2), ?_, ?_, ?_, ?_, ?_, ?_⟩
          · intro y hy
            rw [if_neg (by omega)]
            exact hrows y hy
          · intro y hy
            rw [if_neg (by omega)]
            exact hrest y (by omega)
          all_goals simp [hAu]
        · have huW' : ¬ ((u : Int) = (W : Int)) := by omega
          go_wp2_with fail
          go_meet
          exact ⟨K1, A, hbl, hs1, hm1, hoff, hrows, fun y hy => hrest y (by omega), by simp [hAu], by simp [hAu], fun h => absurd h huW, by omega⟩
      case rest =>
      clear hbl hs1 hm1 hoff hrows hrest
      obtain ⟨K1, A, hbl, hs1, hm1, hoff, hrows, hrest, hr1, hr2, hr3, hr4⟩ := hcut
      go_wp2_with fail
      go_loopw [9] (fun xv wq => ∃ (x : Nat) (K' : Nat → Option Ent) (A' : Nat → List Nat), 1 ≤ x ∧ x ≤ u ∧ xv = .int .i64 x ∧ Below base w wq ∧ Sep wq base K' ∧ Mat K' ko kr N (.slice (some ⟨g, 0, none⟩) N N) A' ∧ Off ko kr N K K' ∧ (∀ y, y < u → RowOk W y (A' y)) ∧ (∀ y, u < y → A' y = []) ∧ (∀ z ∈ A' u, z < x ∧ (z = 0 → u = W)) ∧ (A' u).Nodup ∧ (u = W → 0 ∈ A' u) ∧ (A' u).length ≤ x) (fun xv _ => u - (intOf xv).toNat)
      case atStart => exact ⟨1, K1, A, Nat.le_refl _, hu1, rfl, hbl, hs1, hm1, hoff, hrows, hrest, hr1, hr2, hr3, hr4⟩
      case round =>
        clear hbl hs1 hm1 hoff hrows hrest hr1 hr2 hr3 hr4 K1 A
        obtain ⟨x, K1, A, hx1, hxu, rfl, hbl, hs1, hm1, hoff, hrows, hrest, hr1, hr2, hr3, hr4⟩ := hrel
        have hbw : base ≤ wr.heap.size := by have := hbl.size; omega
        by_cases hx : x < u
        · have hx' : (x : Int) < (u : Int) := by omega
          obtain ⟨r, cr, hr⟩ := hm1.row hs1 hu
          go_wp2_with (first
            | (at_builtin; refine wpList_app1 _ rfl _ _ 26 rfl (hs1.alloc _) hr Yba.underlying26 info3 rfl rfl wr.heap.size 1 (.int .i64 (x : Int)) rfl (by simp) rfl (by omega) (by omega) (by simp; omega) ?_; intro g2 c2 w2 hs2 hg2 hb2; obtain ⟨⟨r2, cc⟩, ff, hbg, K2, hs3, hm3, hk3⟩ := Mat.push hm1 hu hko hs2)
            | fail)
          · refine ⟨⟨x + 1, K2, _, by omega, by omega, by go_num, (((hbl.alloc hbw _).trans hb2).setCell hbg _), hs3, hm3, fun z h1 h2 => (hk3 z h1 (by omega)).trans (hoff z h1 h2), ?_, ?_, ?_, ?_, ?_, ?_⟩, by simp [intOf]; omega⟩
            · intro y hy
              rw [if_neg (by omega)]
              exact hrows y hy
            · intro y hy
              rw [if_neg (by omega)]
              exact hrest y hy
            · intro z hz
              rw [if_pos rfl] at hz
              rcases List.mem_append.1 hz with hz | hz
              · exact ⟨by have := (hr1 z hz).1; omega, (hr1 z hz).2⟩
              · simp at hz
                subst hz
                exact ⟨by omega, by omega⟩
            · rw [if_pos rfl, List.nodup_append]
              refine ⟨hr2, by simp, ?_⟩
              intro y hy z hz e
              simp at hz
              subst hz
              subst e
              have := (hr1 y hy).1
              omega
            · intro h
              rw [if_pos rfl]
              exact List.mem_append.2 (.inl (hr3 h))
            · rw [if_pos rfl]
              simp
              omega
          · exact ⟨⟨x + 1, K1, A, by omega, by omega, by go_num, hbl, hs1, hm1, hoff, hrows, hrest, fun z hz => ⟨by have := (hr1 z hz).1; omega, (hr1 z hz).2⟩, hr2, hr3, by omega⟩, by simp [intOf]; omega⟩
        · have hx' : ¬ ((x : Int) < (u : Int)) := by omega
          go_wp2_with fail
          go_roundw
          case rel =>
            refine ⟨u + 1, K1, A, by omega, by omega, by go_num, hbl, hs1, hm1, hoff, ?_, fun y hy => hrest y (by omega)⟩
            intro y hy
            by_cases e : y = u
            · subst e
              exact ⟨fun z hz => ⟨by have := (hr1 z hz).1; omega, (hr1 z hz).2⟩, hr2, hr3, by omega⟩
            · exact hrows y (by omega)
          case measure => simp [intOf]; omega
    · have hu' : ¬ ((u : Int) < (N : Int)) := by omega
      go_wp2_with fail
      go_ret
      exact ⟨g, N, rfl, hbl, K1, hs1, hoff, A, hm1, fun y hy => hrows y (by omega)⟩
end Go.Proofs.Ybulkuoc
