/- spread: what its parts share; the last loops. -/
import Derived.Test.YbulkuocNearest
import Derived.Test.YbulkuocMark
namespace Go.Proofs.Ybulkuoc
open Go.RowKit

def dropSeq : Nat → Code → Code
  | 0, c => c
  | k + 1, .seq _ b => dropSeq k b
  | _ + 1, c => c

theorem Sep.cellS {w : World} {base : Nat} {K : Nat → Option Ent} (h : Sep w base K) {k t s n g c : Nat} {xs : List Value} (hk : K k = some ⟨t, s, n, .slice (some ⟨g, 0, none⟩) n c, xs⟩) {j : Nat} {x : Value} (hx : xs[j]? = some x) : w.cell? ⟨g, j, none⟩ = some x := by
  have ho := h.own k _ hk
  rcases ho.2 with ⟨e, _⟩ | ⟨g', cap, cur, e, h2, h3, h4, h5, h6, h7⟩
  · cases e
  · cases e
    rw [cell_of_row w g j cur t (0, 0) h3]
    have hl := (List.getElem?_eq_some_iff.1 hx).1
    have h1 : xs.length = n * s := ho.1
    have h7' : cur.toList.take (n * s) = xs := h7
    rw [← hx, ← h7', List.getElem?_take, if_pos (by omega)]
    simp

set_option maxRecDepth 20000 in
set_option maxHeartbeats 3200000 in
theorem fresh_calls (c : Tc) (K D : Nat → Option Ent) (v : Tv) (w : World) (J : List Nat) (O I : Nat → List Nat) (L : Nat → Int) (B bx p : Nat) (h : St c K v w) (hR : Rw c K v D J O I L B (J.length + 2)) (hbx : w.cell? ⟨bx, 0, none⟩ = some (.pointer (some ⟨c.C, 0, none⟩))) (hp2 : 2 ≤ p) (hp : p < J.length + 2) :
    Calls Yba.prog 51 #[.int .i64 (p : Nat), .pointer (some ⟨bx, 0, none⟩)] w fun e w' => e = .returned (.bool true) ∧ ∃ m, w' = w.drewN m := by
  obtain ⟨h13, hmk, _⟩ := hR.r13
  obtain ⟨gM, cM, hmv, _⟩ := h.sep.form h13 |>.2 |>.resolve_left (by rintro ⟨_, h2⟩; simp at h2)
  have hmv : v.marks = .slice (some ⟨gM, 0, none⟩) (J.length + 2) cM := hmv
  rw [hmv] at h13
  rw [if_neg (by omega)] at hmk
  have c33 : w.cell? ⟨c.C, 33, none⟩ = some (.slice (some ⟨gM, 0, none⟩) (J.length + 2) cM) := by rw [← hmv]; exact h.hC.cell? 33
  have c34 : w.cell? ⟨c.C, 34, none⟩ = some (.int .i64 1) := by rw [← hmk]; exact h.hC.cell? 34
  have cp := h.sep.cell h13 (rowOf_get _ hp)
  simp only [if_neg (show ¬ (p < 2) by omega)] at cp
  have hp' : (p : Int) < ((J.length : Int) + 2) := by omega
  clear hmk h13
  go_enter Yba.func51, Yba.ntmps51
  go_wp2_with fail
  go_quiet (fail)
  go_wp2_with fail
  go_ret
  exact ⟨rfl, nq, rfl⟩

theorem pairs_at {l : List (Nat × Nat)} {i : Nat} {x : Nat × Nat} (h : l[i]? = some x) : (pairs l)[i * 2]? = some (.int .i64 (x.1 : Int)) ∧ (pairs l)[i * 2 + 1]? = some (.int .i64 (x.2 : Int)) := by
  induction l generalizing i with
  | nil => simp at h
  | cons y l ih =>
    have e : pairs (y :: l) = .int .i64 (y.1 : Int) :: .int .i64 (y.2 : Int) :: pairs l := rfl
    cases i with
    | zero => simp at h; subst h; rw [e]; simp
    | succ i =>
      simp at h
      obtain ⟨h1, h2⟩ := ih h
      rw [e, show (i + 1) * 2 = i * 2 + 1 + 1 by omega, List.getElem?_cons_succ, List.getElem?_cons_succ, List.getElem?_cons_succ, List.getElem?_cons_succ]
      exact ⟨h1, h2⟩
end Go.Proofs.Ybulkuoc
