/- slices.Compact of different ints. -/
import Derived.Test.YbulkuocSortFunc
namespace Go.Proofs.Ybulkuoc
open Go.RowKit

set_option maxRecDepth 20000 in
set_option maxHeartbeats 3200000 in
theorem compact_calls (w : World) (base k n : Nat) (K : Nat → Option Ent) (x : Value) (l : List Nat) (hs : Sep w base K) (hk : K k = some ⟨3, 1, n, x, ints l⟩) (hn : l.length = n) (hn8 : n ≤ 8) (hnd : l.Nodup) :
    Calls Yba.prog 42 #[x] w fun e w' => e = .returned x ∧ ∃ m, w' = w.drewN m := by
  obtain ⟨ra, rc, rfl, hra⟩ := hs.shape hk
  by_cases h2 : n < 2
  · have h2' : (n : Int) < 2 := by omega
    go_enter Yba.func42, Yba.ntmps42
    go_wp2_with fail
    go_ret
    exact ⟨rfl, 0, rfl⟩
  · have h2' : ¬ ((n : Int) < 2) := by omega
    obtain ⟨g, rfl⟩ := hra (by omega)
    have HND : Hid l.Nodup := hnd
    clear hnd
    go_enter Yba.func42, Yba.ntmps42
    go_wp2_with fail
    go_loopw [3] (fun iv wr => (∃ i : Nat, 1 ≤ i ∧ i ≤ n ∧ iv = .int .i64 i) ∧ ∃ m, wr = w.drewN m) (fun iv _ => n - (intOf iv).toNat)
    case atStart => exact ⟨⟨1, by omega, by omega, rfl⟩, 0, rfl⟩
    case round =>
      obtain ⟨⟨i, hi1, hin, rfl⟩, m, hm⟩ := hrel
      by_cases hi : i < n
      · have hi' : (i : Int) < (n : Int) := by omega
        obtain ⟨a, ha⟩ : ∃ a, l[i]? = some a := ⟨_, List.getElem?_eq_getElem (by omega)⟩
        obtain ⟨b, hb⟩ : ∃ b, l[i - 1]? = some b := ⟨_, List.getElem?_eq_getElem (by omega)⟩
        have hab : a ≠ b := by
          rintro rfl
          obtain ⟨q1, q2⟩ := List.getElem?_eq_some_iff.1 ha
          obtain ⟨q3, q4⟩ := List.getElem?_eq_some_iff.1 hb
          have := (List.nodup_iff_pairwise_ne.1 HND.out)
          rw [List.pairwise_iff_getElem] at this
          exact this (i - 1) i q3 q1 (by omega) (q4.trans q2.symm)
        have hab' : ¬ ((a : Int) = (b : Int)) := by omega
        have hsr : Sep wr base K := by rw [hm]; exact hs.drewN m
        have ca := hsr.cell hk (ints_at ha)
        have cb := hsr.cell hk (ints_at hb)
        have hi1' : ((i : Int) - 1) = ((i - 1 : Nat) : Int) := by omega
        have hi0 : (0 : Int) < (i : Int) := by omega
        have hab2 : decide ((a : Int) = (b : Int)) = false := by simpa using hab'
        have HM : Hid (wr = w.drewN m) := hm
        clear hm
        go_wp2_with fail
        go_quiet (fail)
        go_wp2_with fail
        refine ⟨⟨⟨i + 1, by omega, by omega, by go_num⟩, m + nq, ?_⟩, by simp [intOf]; omega⟩
        rw [HM.out]
        simp [World.drewN, Nat.add_assoc]
      · have hi' : ¬ ((i : Int) < (n : Int)) := by omega
        go_wp2_with fail
        go_ret
        exact ⟨rfl, m, rfl⟩
end Go.Proofs.Ybulkuoc
