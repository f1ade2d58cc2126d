/- slices.SortFunc over places. -/
import Derived.Test.YbulkuocSort
namespace Go.Proofs.Ybulkuoc
open Go.RowKit

set_option maxRecDepth 20000 in
set_option maxHeartbeats 3200000 in
theorem pdq_calls (c : Tc) (K : Nat → Option Ent) (v : Tv) (w : World) (box k g cp n gI M cI : Nat) (lim : Int) (l I : List Nat) (h : Srt c K v box k g cp n l w w) (hn : l.length = n) (hn8 : n ≤ 12) (hids : v.ids = .slice (some ⟨gI, 0, none⟩) M cI) (h1 : K 1 = some ⟨3, 1, M, v.ids, ints I⟩) (hI : I.length = M) (hk1 : k ≠ 1) (hlt : ∀ x ∈ l, x < M) :
    Calls Yba.prog 65 #[.slice (some ⟨g, 0, none⟩) n cp, .int .i64 0, .int .i64 (n : Nat), .int .i64 lim, .func (.func 40) #[] #[.pointer (some ⟨box, 0, none⟩)]] w fun e w' => e = .returned (.tuple #[]) ∧ Srt c K v box k g cp n l w w' := by
  have hn8' : (n : Int) ≤ 12 := by omega
  go_enter Yba.func65, Yba.ntmps65
  go_wp2_with fail
  go_loopw [1, 2] (fun a b wr => a = .int .i64 0 ∧ b = .int .i64 (n : Nat) ∧ wr = w) (fun _ _ _ => 0)
  case atStart => exact ⟨rfl, rfl, rfl⟩
  case round =>
    obtain ⟨rfl, rfl, hw⟩ := hrel
    replace hw := hw.symm
    subst hw
    go_wp2_with fail
    refine Calls.mono (insertion_calls c K v w box k g cp n gI M cI l I h hn hn8 hids h1 hI hk1 hlt) ?_
    rintro e w' ⟨rfl, h'⟩
    go_wp2_with fail
    exact bodyPost_ret (v := .tuple #[]) (by simp [results, Yba.results65, go_sem]) rfl ⟨rfl, h'⟩
end Go.Proofs.Ybulkuoc
