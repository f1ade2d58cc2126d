/- zzs1042adist. -/
import Derived.Test.YbulkuocPred
import Derived.Deep.QuietTactic
import Derived.BigQuiet
namespace Go.Proofs.Ybulkuoc
open Go.RowKit

def rowOf (d : Nat → Int) (N : Nat) : List Value := (List.range N).map (fun u => .int .i64 (d u))
theorem rowOf_get (d : Nat → Int) {N u : Nat} (h : u < N) : (rowOf d N)[u]? = some (.int .i64 (d u)) := by simp [rowOf, h]
theorem rowOf_set (d : Nat → Int) {N u : Nat} (x : Int) : (rowOf d N).set u (.int .i64 x) = rowOf (fun y => if y = u then x else d y) N := by
  apply List.ext_getElem?
  intro i
  rw [List.getElem?_set]
  simp only [rowOf, List.length_map, List.length_range, List.getElem?_map]
  by_cases e : u = i
  · subst e
    by_cases h : u < N
    · simp [h]
    · simp [h]
  · rw [if_neg e]
    by_cases h : i < N
    · simp [h, Ne.symm e]
    · simp [h]
theorem rowOf_zero (N : Nat) : List.replicate N (Value.int .i64 0) = rowOf (fun _ => 0) N := by
  apply List.ext_getElem?
  intro i
  by_cases h : i < N <;> simp [rowOf, h]

/-- r is the least of the lengths by way of l, or -1. -/
def Best (d : Nat → Int) (l : List Nat) (r : Int) : Prop := (r = -1 ∧ ∀ x ∈ l, d x < 0) ∨ (∃ x ∈ l, 0 ≤ d x ∧ r = d x + 1 ∧ ∀ y ∈ l, 0 ≤ d y → r ≤ d y + 1)
theorem Best.keep {d : Nat → Int} {l : List Nat} {r : Int} (h : Best d l r) {x : Nat} (hx : ¬ (0 ≤ d x ∧ (r < 0 ∨ d x + 1 < r))) : Best d (l ++ [x]) r := by
  rcases h with ⟨h1, h2⟩ | ⟨y, h1, h2, h3, h4⟩
  · refine .inl ⟨h1, ?_⟩
    intro z hz
    rcases List.mem_append.1 hz with hz | hz
    · exact h2 z hz
    · simp at hz
      subst hz
      by_cases h : 0 ≤ d z
      · exact absurd ⟨h, .inl (by omega)⟩ hx
      · omega
  · refine .inr ⟨y, List.mem_append.2 (.inl h1), h2, h3, ?_⟩
    intro z hz h
    rcases List.mem_append.1 hz with hz | hz
    · exact h4 z hz h
    · simp at hz
      subst hz
      by_cases h' : d z + 1 < r
      · exact absurd ⟨h, .inr h'⟩ hx
      · omega
theorem Best.take {d : Nat → Int} {l : List Nat} {r : Int} (h : Best d l r) {x : Nat} (hx : 0 ≤ d x) (hr : r < 0 ∨ d x + 1 < r) : Best d (l ++ [x]) (d x + 1) := by
  refine .inr ⟨x, by simp, hx, rfl, ?_⟩
  intro z hz hz0
  rcases List.mem_append.1 hz with hz | hz
  · rcases h with ⟨_, h2⟩ | ⟨y, _, h1, h3, h4⟩
    · have := h2 z hz; omega
    · have := h4 z hz hz0; omega
  · simp at hz
    subst hz
    omega
theorem Best.congr {d d' : Nat → Int} {l : List Nat} {r : Int} (h : Best d l r) (e : ∀ x ∈ l, d' x = d x) : Best d' l r := by
  rcases h with ⟨h1, h2⟩ | ⟨y, h1, h2, h3, h4⟩
  · exact .inl ⟨h1, fun x hx => by rw [e x hx]; exact h2 x hx⟩
  · exact .inr ⟨y, h1, by rw [e y h1]; exact h2, by rw [e y h1]; exact h3, fun z hz hz0 => by rw [e z hz] at hz0 ⊢; exact h4 z hz hz0⟩

structure DistOk (N : Nat) (A : Nat → List Nat) (d : Nat → Int) : Prop where
  z : d 0 = 0
  best : ∀ u, 1 ≤ u → u < N → Best d (A u) (d u)
  bd : ∀ u, u < N → -1 ≤ d u ∧ d u ≤ u

set_option maxRecDepth 10000 in
set_option maxHeartbeats 3200000 in
theorem dist_calls (N W base ga ca : Nat) (A : Nat → List Nat) (K : Nat → Option Ent) (w : World) (hN : N ≤ 8) (hN2 : 2 ≤ N) (hb : base ≤ w.heap.size) (hs : Sep w base K) (hm : Mat K 19 100 N (.slice (some ⟨ga, 0, none⟩) N ca) A) (hA : ∀ y, y < N → RowOk W y (A y)) :
    Calls Yba.prog 10 #[.int .i64 (N : Nat), .slice (some ⟨ga, 0, none⟩) N ca] w fun r w' => ∃ g c, r = .returned (.slice (some ⟨g, 0, none⟩) N c) ∧ Below base w w' ∧ ∃ d, DistOk N A d ∧ Sep w' base (upd K 21 ⟨3, 1, N, .slice (some ⟨g, 0, none⟩) N c, rowOf d N⟩) := by
  have hmk : ∀ w, (Instr.makeSlice 26 (.int .i64 (N : Int)) (.int .i64 (N : Int))).run Yba.prog w = .ok (.slice (some ⟨w.heap.size, 0, none⟩) N N) (w.alloc (.cells (madeCells #[.int .i64 0] N) 3)) :=
    fun w => run_make_row' 26 3 (.int .i64 0) 8 Yba.underlying26 info3 rfl .i64 .i64 N (by omega) (by omega) w
  have hsM := hs.made 3 (.int .i64 0) N 21 hb (by unfold maxLen; omega)
  rw [rowOf_zero] at hsM
  have HA : Hid (∀ y, y < N → RowOk W y (A y)) := hA
  go_enter Yba.func10, Yba.ntmps10
  go_wp2_with fail
  generalize hg : w.heap.size = g at *
  go_loopw [6] (fun uv wr => ∃ (u : Nat) (d : Nat → Int), 1 ≤ u ∧ u ≤ N ∧ uv = .int .i64 u ∧ Below base w wr ∧ Sep wr base (upd K 21 ⟨3, 1, N, .slice (some ⟨g, 0, none⟩) N N, rowOf d N⟩) ∧ d 0 = 0 ∧ (∀ y, 1 ≤ y → y < u → Best d (A y) (d y)) ∧ ∀ y, -1 ≤ d y ∧ d y ≤ y) (fun uv _ => N - (intOf uv).toNat)
  case atStart => exact ⟨1, fun _ => 0, Nat.le_refl _, by omega, rfl, (Below.refl _ _).alloc (by rw [hg]; exact hb) _, hsM, rfl, fun y h1 h2 => by omega, fun y => by dsimp only; omega⟩
  case round =>
    obtain ⟨u, d, hu1, huN, rfl, hbl, hs1, hd0, hbest, hbd⟩ := hrel
    have HB : Hid (∀ y, 1 ≤ y → y < u → Best d (A y) (d y)) := hbest
    have HD : Hid (∀ y, -1 ≤ d y ∧ d y ≤ y) := hbd
    clear hbest hbd
    by_cases hu : u < N
    · have hu' : (u : Int) < (N : Int) := by omega
      have e21 := upd_same K 21 ⟨3, 1, N, .slice (some ⟨g, 0, none⟩) N N, rowOf d N⟩
      have cu := hs1.cell e21 (rowOf_get d hu)
      have fu := hs1.free e21 u
      have hs2 := hs1.put e21 (j := u) (.int .i64 (-1))
      rw [upd_upd, rowOf_set] at hs2
      have hmA : ∀ e, Mat (upd K 21 e) 19 100 N (.slice (some ⟨ga, 0, none⟩) N ca) A := fun e => hm.keep (upd_other _ _ (by omega)) (fun y hy => upd_other _ _ (by omega))
      obtain ⟨r, cr, hr⟩ := (hmA _).row hs2 hu
      obtain ⟨ra, rc, rfl, hra⟩ := hs2.shape hr
      have hrK : K (100 + u) = some ⟨3, 1, (A u).length, .slice ra (A u).length rc, ints (A u)⟩ := by rw [upd_other _ _ (by omega)] at hr; exact hr
      have hl8 := (HA.out u hu).len
      have hbg : base ≤ g := hb
      go_wp2_with fail
      go_loopw [24] (fun jv wq => ∃ (j : Nat) (r : Int), j ≤ (A u).length ∧ jv = .int .i64 j ∧ Below base w wq ∧ Sep wq base (upd K 21 ⟨3, 1, N, .slice (some ⟨g, 0, none⟩) N N, rowOf (fun y => if y = u then r else d y) N⟩) ∧ Best d ((A u).take j) r ∧ -1 ≤ r ∧ r ≤ u) (fun jv _ => (A u).length - (intOf jv).toNat)
      case atStart => exact ⟨0, -1, Nat.zero_le _, rfl, hbl.setCell hbg _, hs2, .inl ⟨rfl, by simp⟩, by omega, by omega⟩
      case round =>
        clear hbl hs1 hs2 e21 cu fu cr hr
        obtain ⟨j, r, hj, rfl, hbl, hs1, hbest, hr1, hr2⟩ := hrel
        have HBS : Hid (Best d ((A u).take j) r) := hbest
        clear hbest
        by_cases hjl : j < (A u).length
        · have hjl' : (j : Int) < ((A u).length : Int) := by omega
          obtain ⟨gr, rfl⟩ := hra (by omega)
          obtain ⟨x, hx⟩ : ∃ x, (A u)[j]? = some x := ⟨_, List.getElem?_eq_getElem hjl⟩
          have hxA : x ∈ A u := List.mem_of_getElem? hx
          have hxu := ((HA.out u hu).lt x hxA).1
          have hxN : x < N := by omega
          have hx' : (x : Int) < (N : Int) := by omega
          have e21 := upd_same K 21 ⟨3, 1, N, .slice (some ⟨g, 0, none⟩) N N, rowOf (fun y => if y = u then r else d y) N⟩
          have hrr : upd K 21 ⟨3, 1, N, .slice (some ⟨g, 0, none⟩) N N, rowOf (fun y => if y = u then r else d y) N⟩ (100 + u) = some ⟨3, 1, (A u).length, .slice (some ⟨gr, 0, none⟩) (A u).length rc, ints (A u)⟩ := by rw [upd_other _ _ (by omega)]; exact hrK
          have cj := hs1.cell hrr (ints_at hx)
          have cx : wr.cell? ⟨g, x, none⟩ = some (.int .i64 (d x)) := by
            have := hs1.cell e21 (rowOf_get _ hxN)
            rwa [if_neg (by omega)] at this
          have cu : wr.cell? ⟨g, u, none⟩ = some (.int .i64 r) := by
            have := hs1.cell e21 (rowOf_get _ hu)
            rwa [if_pos rfl] at this
          have fu := hs1.free e21 u
          obtain ⟨hd1, hd2⟩ := HD.out x
          have htk : (A u).take (j + 1) = (A u).take j ++ [x] := by rw [List.take_add_one, hx]; rfl
          have hs2 := hs1.put e21 (j := u) (.int .i64 (d x + 1))
          rw [upd_upd, rowOf_set] at hs2
          have hfun : (fun y => if y = u then d x + 1 else if y = u then r else d y) = fun y => if y = u then d x + 1 else d y := by
            funext y
            by_cases e : y = u <;> simp [e]
          rw [hfun] at hs2
          generalize hdx : d x = a at *
          by_cases h1 : 0 ≤ a
          · by_cases h2 : r < 0
            · go_wp2_with fail
              go_quiet (fail)
              go_wp2_with fail
              refine ⟨⟨j + 1, a + 1, by omega, by go_num, below_drewN (hbl.setCell hbg _) nq, hs2.drewN nq, ?_, by omega, by omega⟩, by simp [intOf]; omega⟩
              rw [htk]
              have := HBS.out.take (x := x) (by omega) (.inl h2)
              rwa [hdx] at this
            · have h2' : decide (r < 0) = false := by simpa using h2
              by_cases h3 : a + 1 < r
              · go_wp2_with fail
                go_quiet (fail)
                go_wp2_with fail
                refine ⟨⟨j + 1, a + 1, by omega, by go_num, below_drewN (hbl.setCell hbg _) nq, hs2.drewN nq, ?_, by omega, by omega⟩, by simp [intOf]; omega⟩
                rw [htk]
                have := HBS.out.take (x := x) (by omega) (.inr (by omega))
                rwa [hdx] at this
              · go_wp2_with fail
                go_quiet (fail)
                go_wp2_with fail
                refine ⟨⟨j + 1, r, by omega, by go_num, below_drewN hbl nq, hs1.drewN nq, ?_, by omega, by omega⟩, by simp [intOf]; omega⟩
                rw [htk]
                exact HBS.out.keep (by rw [hdx]; omega)
          · have h1' : decide (0 ≤ a) = false := by simpa using h1
            go_wp2_with fail
            go_quiet (fail)
            go_wp2_with fail
            refine ⟨⟨j + 1, r, by omega, by go_num, below_drewN hbl nq, hs1.drewN nq, ?_, by omega, by omega⟩, by simp [intOf]; omega⟩
            rw [htk]
            exact HBS.out.keep (by rw [hdx]; omega)
        · have hjl' : ¬ ((j : Int) < ((A u).length : Int)) := by omega
          go_wp2_with fail
          go_roundw
          case rel =>
            have e : (A u).take j = A u := List.take_of_length_le (by omega)
            have hb2 := HBS.out
            rw [e] at hb2
            refine ⟨u + 1, _, by omega, by omega, by go_num, hbl, hs1, by rw [if_neg (by omega)]; exact hd0, ?_, ?_⟩
            · intro y h1 h2
              by_cases e : y = u
              · subst e
                rw [if_pos rfl]
                exact hb2.congr (fun x hx => if_neg (by have := ((HA.out y hu).lt x hx).1; omega))
              · rw [if_neg e]
                exact (HB.out y h1 (by omega)).congr (fun x hx => if_neg (by have := ((HA.out y (by omega)).lt x hx).1; omega))
            · intro y
              by_cases e : y = u
              · subst e; simp; omega
              · simp only [if_neg e]; exact HD.out y
          case measure => simp [intOf]; omega
    · have hu' : ¬ ((u : Int) < (N : Int)) := by omega
      go_wp2_with fail
      go_ret
      exact ⟨g, N, rfl, hbl, d, ⟨hd0, fun y h1 h2 => HB.out y h1 (by omega), fun y _ => HD.out y⟩, hs1⟩
end Go.Proofs.Ybulkuoc
