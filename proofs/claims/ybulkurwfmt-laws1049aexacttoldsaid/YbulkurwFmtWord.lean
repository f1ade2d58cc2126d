/- The law's own two helpers: a word, a script. -/
import Derived.Test.YbulkurwFmtEq
namespace Go.Proofs.YbulkurwFmt
open Go.RowKit

def nm (n : Int) : ByteArray := if n % 3 = 0 then ⟨#[97, 48]⟩ else if n % 3 = 1 then ⟨#[97, 49]⟩ else ⟨#[116, 50]⟩
def word (fx : Bool) (v n : Int) : Value := if fx then .agg #[.string ⟨#[]⟩, .int .u64 v, .bool true] else .agg #[.string (nm n), .int .u64 0, .bool false]

set_option maxHeartbeats 800000 in
theorem word_calls (fx : Bool) (v n : Int) (h0 : 0 ≤ n) (h1 : n < 256) (w : World) :
    Calls Ybaf.prog 5 #[.bool fx, .int .u64 v, .int .u8 n] w fun e w' => e = .returned (word fx v n) ∧ Below w.heap.size w w' := by
  cases fx with
  | true =>
    go_enter Ybaf.func5, Ybaf.ntmps5
    go_wp2
    refine bodyPost_ret (v := .agg #[.string ⟨#[]⟩, .int .u64 v, .bool true]) (by simp [results, Ybaf.results5, go_sem]) rfl ?_
    exact ⟨rfl, (Below.refl _ w).alloc (Nat.le_refl _) _⟩
  | false =>
    have hc : n % 3 = 0 ∨ n % 3 = 1 ∨ n % 3 = 2 := by omega
    rcases hc with hc | hc | hc
    all_goals
      have ht : n.tmod 3 = n % 3 := by rw [Int.tmod_eq_emod_of_nonneg h0]
      rw [hc] at ht
      go_enter Ybaf.func5, Ybaf.ntmps5
      go_wp2
      refine bodyPost_ret (v := word false v n) (by simp [word, nm, hc, results, Ybaf.results5, go_sem]) rfl ?_
      exact ⟨rfl, ((Below.refl _ w).alloc (Nat.le_refl _) _).alloc (by simp) _⟩
end Go.Proofs.YbulkurwFmt
