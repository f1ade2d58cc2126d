/- slices.SortFunc over places. -/
import Derived.Test.YbulkuocPdq
namespace Go.Proofs.Ybulkuoc
open Go.RowKit

set_option maxRecDepth 20000 in
set_option maxHeartbeats 3200000 in
theorem len0_calls (w : World) : Calls Yba.prog 66 #[.int .u64 0] w fun e w' => (∃ m : Int, e = .returned (.int .i64 m)) ∧ w' = w := by
  go_enter Yba.func66, Yba.ntmps66
  go_wp2
  go_ret
  exact ⟨⟨_, rfl⟩, rfl⟩

set_option maxRecDepth 20000 in
set_option maxHeartbeats 3200000 in
theorem len1_calls (w : World) : Calls Yba.prog 66 #[.int .u64 1] w fun e w' => (∃ m : Int, e = .returned (.int .i64 m)) ∧ w' = w := by
  go_enter Yba.func66, Yba.ntmps66
  go_wp2
  go_ret
  exact ⟨⟨_, rfl⟩, rfl⟩

set_option maxRecDepth 20000 in
set_option maxHeartbeats 3200000 in
theorem len2_calls (w : World) : Calls Yba.prog 66 #[.int .u64 2] w fun e w' => (∃ m : Int, e = .returned (.int .i64 m)) ∧ w' = w := by
  go_enter Yba.func66, Yba.ntmps66
  go_wp2
  go_ret
  exact ⟨⟨_, rfl⟩, rfl⟩

set_option maxRecDepth 20000 in
set_option maxHeartbeats 3200000 in
theorem len3_calls (w : World) : Calls Yba.prog 66 #[.int .u64 3] w fun e w' => (∃ m : Int, e = .returned (.int .i64 m)) ∧ w' = w := by
  go_enter Yba.func66, Yba.ntmps66
  go_wp2
  go_ret
  exact ⟨⟨_, rfl⟩, rfl⟩

set_option maxRecDepth 20000 in
set_option maxHeartbeats 3200000 in
theorem len4_calls (w : World) : Calls Yba.prog 66 #[.int .u64 4] w fun e w' => (∃ m : Int, e = .returned (.int .i64 m)) ∧ w' = w := by
  go_enter Yba.func66, Yba.ntmps66
  go_wp2
  go_ret
  exact ⟨⟨_, rfl⟩, rfl⟩

set_option maxRecDepth 20000 in
set_option maxHeartbeats 3200000 in
theorem len5_calls (w : World) : Calls Yba.prog 66 #[.int .u64 5] w fun e w' => (∃ m : Int, e = .returned (.int .i64 m)) ∧ w' = w := by
  go_enter Yba.func66, Yba.ntmps66
  go_wp2
  go_ret
  exact ⟨⟨_, rfl⟩, rfl⟩

set_option maxRecDepth 20000 in
set_option maxHeartbeats 3200000 in
theorem len6_calls (w : World) : Calls Yba.prog 66 #[.int .u64 6] w fun e w' => (∃ m : Int, e = .returned (.int .i64 m)) ∧ w' = w := by
  go_enter Yba.func66, Yba.ntmps66
  go_wp2
  go_ret
  exact ⟨⟨_, rfl⟩, rfl⟩

set_option maxRecDepth 20000 in
set_option maxHeartbeats 3200000 in
theorem len7_calls (w : World) : Calls Yba.prog 66 #[.int .u64 7] w fun e w' => (∃ m : Int, e = .returned (.int .i64 m)) ∧ w' = w := by
  go_enter Yba.func66, Yba.ntmps66
  go_wp2
  go_ret
  exact ⟨⟨_, rfl⟩, rfl⟩

set_option maxRecDepth 20000 in
set_option maxHeartbeats 3200000 in
theorem len8_calls (w : World) : Calls Yba.prog 66 #[.int .u64 8] w fun e w' => (∃ m : Int, e = .returned (.int .i64 m)) ∧ w' = w := by
  go_enter Yba.func66, Yba.ntmps66
  go_wp2
  go_ret
  exact ⟨⟨_, rfl⟩, rfl⟩

theorem len_calls (n : Nat) (w : World) (hn : n ≤ 8) : Calls Yba.prog 66 #[.int .u64 (n : Nat)] w fun e w' => (∃ m : Int, e = .returned (.int .i64 m)) ∧ w' = w := by
  have h1 : n = 0 ∨ n = 1 ∨ n = 2 ∨ n = 3 ∨ n = 4 ∨ n = 5 ∨ n = 6 ∨ n = 7 ∨ n = 8 := by omega
  rcases h1 with rfl | rfl | rfl | rfl | rfl | rfl | rfl | rfl | rfl
  · exact len0_calls w
  · exact len1_calls w
  · exact len2_calls w
  · exact len3_calls w
  · exact len4_calls w
  · exact len5_calls w
  · exact len6_calls w
  · exact len7_calls w
  · exact len8_calls w

set_option maxRecDepth 20000 in
set_option maxHeartbeats 3200000 in
theorem sort_calls (c : Tc) (K : Nat → Option Ent) (v : Tv) (w : World) (box k g cp n gI M cI : Nat) (l I : List Nat) (h : Srt c K v box k g cp n l w w) (hn : l.length = n) (hn8 : n ≤ 8) (hids : v.ids = .slice (some ⟨gI, 0, none⟩) M cI) (h1 : K 1 = some ⟨3, 1, M, v.ids, ints I⟩) (hI : I.length = M) (hk1 : k ≠ 1) (hlt : ∀ x ∈ l, x < M) :
    Calls Yba.prog 39 #[.slice (some ⟨g, 0, none⟩) n cp, .func (.func 40) #[] #[.pointer (some ⟨box, 0, none⟩)]] w fun e w' => e = .returned (.tuple #[]) ∧ Srt c K v box k g cp n l w w' := by
  go_enter Yba.func39, Yba.ntmps39
  go_wp2_with fail
  refine Calls.mono (len_calls n w hn8) ?_
  rintro e w1 ⟨⟨m, rfl⟩, rfl⟩
  go_wp2_with fail
  refine Calls.mono (pdq_calls c K v w1 box k g cp n gI M cI m l I h hn (by omega) hids h1 hI hk1 hlt) ?_
  rintro e w2 ⟨rfl, h2⟩
  go_wp2_with fail
  go_end0
  exact ⟨rfl, h2⟩

set_option maxRecDepth 20000 in
set_option maxHeartbeats 3200000 in
theorem insertion_nil_calls (f : Value) (w : World) : Calls Yba.prog 78 #[.slice none 0 0, .int .i64 0, .int .i64 0, f] w fun e w' => e = .returned (.tuple #[]) ∧ w' = w := by
  go_enter Yba.func78, Yba.ntmps78
  go_wp2_with fail
  go_loopw [8] (fun i wr => i = .int .i64 1 ∧ wr = w) (fun _ _ => 0)
  case atStart => exact ⟨rfl, rfl⟩
  case round =>
    obtain ⟨rfl, hw⟩ := hrel
    replace hw := hw.symm
    subst hw
    go_wp2_with fail
    go_end0
    exact ⟨rfl, rfl⟩

set_option maxRecDepth 20000 in
set_option maxHeartbeats 3200000 in
theorem pdq_nil_calls (f : Value) (m : Int) (w : World) : Calls Yba.prog 65 #[.slice none 0 0, .int .i64 0, .int .i64 0, .int .i64 m, f] w fun e w' => e = .returned (.tuple #[]) ∧ w' = w := by
  go_enter Yba.func65, Yba.ntmps65
  go_wp2_with fail
  go_loopw [1, 2] (fun a b wr => a = .int .i64 0 ∧ b = .int .i64 0 ∧ wr = w) (fun _ _ _ => 0)
  case atStart => exact ⟨rfl, rfl, rfl⟩
  case round =>
    obtain ⟨rfl, rfl, hw⟩ := hrel
    replace hw := hw.symm
    subst hw
    go_wp2_with fail
    refine Calls.mono (insertion_nil_calls f w) ?_
    rintro e w' ⟨rfl, rfl⟩
    go_wp2_with fail
    exact bodyPost_ret (v := .tuple #[]) (by simp [results, Yba.results65, go_sem]) rfl ⟨rfl, rfl⟩

set_option maxRecDepth 20000 in
set_option maxHeartbeats 3200000 in
/-- No place at all. -/
theorem sort_nil_calls (f : Value) (w : World) : Calls Yba.prog 39 #[.slice none 0 0, f] w fun e w' => e = .returned (.tuple #[]) ∧ w' = w := by
  go_enter Yba.func39, Yba.ntmps39
  go_wp2_with fail
  refine Calls.mono (len_calls 0 w (by omega)) ?_
  rintro e w1 ⟨⟨m, rfl⟩, rfl⟩
  go_wp2_with fail
  refine Calls.mono (pdq_nil_calls f m w1) ?_
  rintro e w2 ⟨rfl, rfl⟩
  go_wp2_with fail
  go_end0
  exact ⟨rfl, rfl⟩
end Go.Proofs.Ybulkuoc
