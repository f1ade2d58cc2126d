/- The law's script. -/
import Derived.Test.YbulkurwFmtWord
namespace Go.Proofs.YbulkurwFmt
open Go.RowKit

def lineText : ByteArray := ⟨#[40, 100, 101, 99, 108, 97, 114, 101, 45, 99, 111, 110, 115, 116, 32, 97, 48, 32, 40, 95, 32, 66, 105, 116, 86, 101, 99, 32, 54, 52, 41, 41]⟩
def lines (k : Nat) : List Value := List.replicate k (.string lineText)

theorem lines_succ (k : Nat) : lines k ++ [.string lineText] = lines (k + 1) := by
  unfold lines; rw [List.replicate_succ']

theorem row_ne {w : World} {base sb n : Nat} {v : Value} {xs : List Value} {cs : Array Value} (hown : w.ownsRow base 9 1 v n xs) (hs : w.heap[sb]? = some (.cells cs 35 (0, 0))) : v.ownBlock ≠ some sb := by
  intro e
  rcases hown.2 with ⟨h1, _⟩ | ⟨g, cap, cur, h1, _, hg, _⟩
  · rw [h1] at e; simp [Value.ownBlock] at e
  · rw [h1] at e; simp [Value.ownBlock] at e
    subst e
    rw [hs] at hg
    cases hg

set_option maxRecDepth 10000 in
set_option maxHeartbeats 800000 in
theorem script_calls (c k : Nat) (hc : c < 256) (hk : (c : Int) % 8 = (k : Int)) (w : World) :
    Calls Ybaf.prog 6 #[.int .u8 c] w fun e w' => e = .returned (.tuple #[.pointer (some ⟨w.heap.size, 0, none⟩), .int .i64 k]) ∧ Scr w' w.heap.size w.heap.size k (lines k) ∧ Below w.heap.size w w' := by
  have hk8 : k < 8 := by omega
  obtain ⟨i9, hi, hz0, hz1, hz2⟩ := info_parts info9
  go_enter Ybaf.func6, Ybaf.ntmps6
  go_wp2_with fail
  rw [hk]
  clear hk
  go_loopw [6] (fun i wr => ∃ j : Nat, j ≤ k ∧ i = .int .i64 j ∧ Scr wr w.heap.size w.heap.size j (lines j) ∧ Below w.heap.size w wr) (fun i _ => k - (intOf i).toNat)
  case atStart => exact ⟨0, Nat.zero_le _, rfl, ⟨Nat.le_refl _, _, heap_alloc_new _ _, World.ownsRow_nil _ _ _ _⟩, (Below.refl _ w).alloc (Nat.le_refl _) _⟩
  case round =>
    obtain ⟨j, hj, rfl, hS, hbl⟩ := hrel
    by_cases hjl : j < k
    · have hlt := hS.lt
      obtain ⟨hle, v, hs, hown⟩ := hS
      have hne := row_ne hown hs
      have hc1 : wr.cell? ⟨w.heap.size, 1, none⟩ = some v := by rw [cell_of_row wr _ 1 _ 35 (0, 0) hs]; rfl
      go_wp2_with (first
        | (at_builtin; refine wpList_append_lies _ rfl _ _ 33 rfl w.heap.size 9 i9 _ 1 16 Ybaf.underlying33 hi hz0 hz1 hz2 rfl (by omega) v j (lines j) rfl (hown.alloc _) ⟨wr.heap.size, 0, none⟩ 1 1 [.string lineText] rfl rfl (cell_one_new _ _ _) (by simp [Value.oneCell']) (by omega) (by unfold maxLen; omega) (by omega) (by simp; omega) (wr.heap.size + 1) (by simp) ?_; intro g cap w1 hown1 hgrow hat hlt1; have hc9 := (hgrow.cell_far ⟨w.heap.size, 1, none⟩ (by simp; omega) (Ne.symm hne)).trans (cell_later ((Below.refl _ wr).alloc (Nat.le_refl _) _) hc1); have hf9 : w1.frozen? ⟨w.heap.size, 1, none⟩ = false := (by have h9 := (hgrow.block w.heap.size (by simp; omega) (Ne.symm hne)).trans ((Below.heap_alloc wr _ _ hlt).trans hs); simp [World.frozen?, h9]))
        | fail)
      go_roundw
      case rel =>
        have hend := define_end hle hs hown hne ((Below.refl _ wr).alloc (Nat.le_refl _) _) hgrow (hat.imp_right (by omega)) hown1
        rw [lines_succ] at hend
        exact ⟨j + 1, by omega, by go_num, hend.1, hbl.trans hend.2.1⟩
      case measure => simp [intOf]; omega
    · obtain rfl : j = k := by omega
      go_wp2_with fail
      refine bodyPost_ret (v := .tuple #[.pointer (some ⟨w.heap.size, 0, none⟩), .int .i64 j]) (by simp [results, Ybaf.results6, go_sem]) rfl ?_
      exact ⟨rfl, hS, hbl⟩
end Go.Proofs.YbulkurwFmt
