/- takeJunctions, with no junction. -/
import Derived.Test.YbulkuocCompact
namespace Go.Proofs.Ybulkuoc
open Go.RowKit

set_option maxRecDepth 20000 in
set_option maxHeartbeats 3200000 in
theorem junctions_calls (c : Tc) (K : Nat → Option Ent) (v : Tv) (w : World) (h : St c K v w) (k : Nat) (x : Value) (l : List Nat) (hk : K k = some ⟨3, 1, l.length, x, ints l⟩) (hl : l.length ≤ 8) (hlt : ∀ y ∈ l, y < c.N) :
    Calls Yba.prog 25 #[.pointer (some ⟨c.C, 0, none⟩), x] w fun e w' => e = .returned (.bool true) ∧ w' = w := by
  obtain ⟨ra, rc, rfl, hra⟩ := h.sep.shape hk
  have HLT : Hid (∀ y ∈ l, y < c.N) := hlt
  clear hlt
  have c0 : w.cell? ⟨c.C, 0, none⟩ = some (.int .i64 (c.N : Int)) := h.hC.cell? 0
  go_enter Yba.func25, Yba.ntmps25
  go_wp2_with fail
  go_loopw [14] (fun iv wr => (∃ i : Nat, i ≤ l.length ∧ iv = .int .i64 i) ∧ wr = w) (fun iv _ => l.length - (intOf iv).toNat)
  case atStart => exact ⟨⟨0, Nat.zero_le _, rfl⟩, rfl⟩
  case round =>
    obtain ⟨⟨i, hi, rfl⟩, hw⟩ := hrel
    replace hw := hw.symm
    subst hw
    by_cases hil : i < l.length
    · have hil' : (i : Int) < (l.length : Int) := by omega
      obtain ⟨g, rfl⟩ := hra (by omega)
      obtain ⟨y, hy⟩ : ∃ y, l[i]? = some y := ⟨_, List.getElem?_eq_getElem hil⟩
      have cy := h.sep.cell hk (ints_at hy)
      have hyN := HLT.out y (List.mem_of_getElem? hy)
      have hyN' : (y : Int) < (c.N : Int) := by omega
      go_wp2_with fail
      go_roundw
      case rel => exact ⟨⟨i + 1, by omega, by go_num⟩, trivial⟩
      case measure => simp [intOf]; omega
    · have hil' : ¬ ((i : Int) < (l.length : Int)) := by omega
      go_wp2_with fail
      go_ret
      exact ⟨rfl, rfl⟩
end Go.Proofs.Ybulkuoc
