/- cmp.Compare, the comparing closures, cost. -/
import Derived.Test.YbulkuocRead
namespace Go.Proofs.Ybulkuoc
open Go.RowKit

/-- cmp.Compare's answer. -/
def cmpv (x y : Int) : Int := if x < y then -1 else if y < x then 1 else 0
theorem cmpv_zero {x y : Int} (h : cmpv x y = 0) : x = y := by
  unfold cmpv at h
  split at h
  · omega
  · split at h <;> omega
theorem cmpv_bd (x y : Int) : -1 ≤ cmpv x y ∧ cmpv x y ≤ 1 := by
  unfold cmpv
  split
  · omega
  · split <;> omega

set_option maxRecDepth 20000 in
set_option maxHeartbeats 3200000 in
theorem compare_calls (a b : Int) (w : World) : Calls Yba.prog 41 #[.int .i64 a, .int .i64 b] w fun e w' => e = .returned (.int .i64 (cmpv a b)) ∧ w' = w := by
  by_cases h1 : a < b
  · have e : cmpv a b = -1 := by simp [cmpv, h1]
    rw [e]
    go_enter Yba.func41, Yba.ntmps41
    go_wp2
    go_ret
    exact ⟨rfl, rfl⟩
  · by_cases h2 : b < a
    · have e : cmpv a b = 1 := by simp [cmpv, h1, h2]
      rw [e]
      go_enter Yba.func41, Yba.ntmps41
      go_wp2
      go_ret
      exact ⟨rfl, rfl⟩
    · have e : cmpv a b = 0 := by simp [cmpv, h1, h2]
      rw [e]
      go_enter Yba.func41, Yba.ntmps41
      go_wp2
      go_ret
      exact ⟨rfl, rfl⟩

set_option maxRecDepth 20000 in
set_option maxHeartbeats 3200000 in
theorem cmpIds_calls (C box g M cI a b : Nat) (x y : Int) (w : World) (hbx : w.cell? ⟨box, 0, none⟩ = some (.pointer (some ⟨C, 0, none⟩))) (c6 : w.cell? ⟨C, 6, none⟩ = some (.slice (some ⟨g, 0, none⟩) M cI)) (ha : a < M) (hb : b < M) (ca : w.cell? ⟨g, a, none⟩ = some (.int .i64 x)) (cb : w.cell? ⟨g, b, none⟩ = some (.int .i64 y)) :
    Calls Yba.prog 40 #[.int .i64 (a : Nat), .int .i64 (b : Nat), .pointer (some ⟨box, 0, none⟩)] w fun e w' => e = .returned (.int .i64 (cmpv x y)) ∧ ∃ n, w' = w.drewN n := by
  have ha' : (a : Int) < (M : Int) := by omega
  have hb' : (b : Int) < (M : Int) := by omega
  go_enter Yba.func40, Yba.ntmps40
  go_wp2_with fail
  go_quiet ((go_at_call 41; exact Calls.quiet_of_same (compare_calls _ _ _)))
  go_wp2_with fail
  go_ret
  exact ⟨rfl, nq, rfl⟩

set_option maxRecDepth 20000 in
set_option maxHeartbeats 3200000 in
/-- cost is 1 wherever no junction is. -/
theorem cost_calls (c : Tc) (K : Nat → Option Ent) (v : Tv) (w : World) (h : St c K v w) (g M cI p : Nat) (x : Int) (hids : v.ids = .slice (some ⟨g, 0, none⟩) M cI) (hp : p < M) (cx : w.cell? ⟨g, p, none⟩ = some (.int .i64 x)) :
    Calls Yba.prog 52 #[.pointer (some ⟨c.C, 0, none⟩), .int .i64 (p : Nat)] w fun e w' => e = .returned (.int .i64 1) ∧ w' = w := by
  have hp' : (p : Int) < (M : Int) := by omega
  have c0 : w.cell? ⟨c.C, 0, none⟩ = some (.int .i64 (c.N : Int)) := h.hC.cell? 0
  have c6 : w.cell? ⟨c.C, 6, none⟩ = some (.slice (some ⟨g, 0, none⟩) M cI) := by rw [← hids]; exact h.hC.cell? 6
  have c7 : w.cell? ⟨c.C, 7, none⟩ = some (.int .i64 (c.N : Int)) := h.hC.cell? 7
  by_cases hx : (c.N : Int) ≤ x
  · have hx2 : ¬ (x < (c.N : Int)) := by omega
    go_enter Yba.func52, Yba.ntmps52
    go_wp2_with fail
    go_ret
    exact ⟨rfl, rfl⟩
  · have hx1 : decide ((c.N : Int) ≤ x) = false := by simpa using hx
    go_enter Yba.func52, Yba.ntmps52
    go_wp2_with fail
    go_ret
    exact ⟨rfl, rfl⟩
end Go.Proofs.Ybulkuoc
