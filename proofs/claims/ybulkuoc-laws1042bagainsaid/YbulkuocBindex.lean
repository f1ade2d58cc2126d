/- zzs1042bindex: its contract. -/
import Derived.Test.YbulkuocRows
import Derived.WalkKit
import Derived.WalkSpells
import Derived.WalkLawsBesides
import Derived.Test.YbulkuocIdx
namespace Go.Proofs.Ybulkuoc
open Go.RowKit Go.Maps

/-- What bindex answers. -/
def idx (x : ByteArray) (ns : List ByteArray) : Int := if pos x ns < ns.length then (pos x ns : Int) else -1

theorem idx_hit {x : ByteArray} {ns : List ByteArray} {k : Nat} {y : ByteArray} (h1 : ns[k]? = some y) (h2 : ∀ j y, j < k → ns[j]? = some y → sm y x = false) (h3 : (y.toList == x.toList) = true) : idx x ns = k := by
  have h4 : y = x := sm_iff.1 h3
  subst h4
  have hp := pos_eq_of y ns k h1 h2
  unfold idx
  rw [hp, if_pos (List.getElem?_eq_some_iff.1 h1).1]
theorem idx_miss {x : ByteArray} {ns : List ByteArray} (h2 : ∀ j y, j < ns.length → ns[j]? = some y → sm y x = false) : idx x ns = -1 := by
  unfold idx
  rw [pos_out_of x ns h2, if_neg (Nat.lt_irrefl _)]
theorem bef_succ {x y : ByteArray} {ns : List ByteArray} {k : Nat} (h1 : ns[k]? = some y) (h2 : ∀ j y, j < k → ns[j]? = some y → sm y x = false) (h3 : (y.toList == x.toList) = false) : ∀ j y, j < k + 1 → ns[j]? = some y → sm y x = false := by
  intro j z hj hz
  rcases Nat.lt_or_eq_of_le (Nat.le_of_lt_succ hj) with h | h
  · exact h2 j z h hz
  · subst h; rw [h1] at hz; cases hz; exact h3

set_option maxHeartbeats 400000 in
theorem bindex_calls (base : Nat) (v : Value) (ns : List ByteArray) (x : ByteArray) (w : World) (hown : w.ownsRow base 9 1 v ns.length (ns.map Value.string)) (hn : ns.length ≤ 1024) :
    Calls Yba.prog 15 #[v, .string x] w fun e w' => e = .returned (.int .i64 (idx x ns)) ∧ w' = w := by
  rcases hown.2 with ⟨rfl, h0⟩ | ⟨g, cap, cur, rfl, hb, hg, hnc, hcm, hcs, htake⟩
  · have hns : ns = [] := List.length_eq_zero_iff.1 h0
    subst hns
    go_enter Yba.func15, Yba.ntmps15
    go_wp2
    refine wp_loop_rounds 1 ?_
    rw [rounds_succ]
    go_wp2
    go_ret
    exact ⟨rfl, rfl⟩
  · have hc : ∀ k (hk : k < ns.length), w.cell? ⟨g, k, none⟩ = some (.string ns[k]) := by
      intro k hk
      have := hown.cells (g := g) rfl k (.string ns[k]) (by simp [hk])
      rw [show ((⟨g, 0, none⟩ : Addr).add k) = ⟨g, k, none⟩ from by unfold Addr.add; split <;> simp_all] at this
      exact this
    clear hown hg hcs htake hcm hb
    go_enter Yba.func15, Yba.ntmps15
    go_wp2
    go_loop [8] (fun i => ∃ k : Nat, k ≤ ns.length ∧ i = .int .i64 k ∧ ∀ j y, j < k → ns[j]? = some y → sm y x = false) (fun i => ns.length - (intOf i).toNat)
    case atStart => exact ⟨0, Nat.zero_le _, rfl, fun j y hj => absurd hj (Nat.not_lt_zero _)⟩
    case round =>
      obtain ⟨k, hk, rfl, hbef⟩ := hrel
      have HB : Hid (∀ j y, j < k → ns[j]? = some y → sm y x = false) := hbef
      clear hbef
      by_cases hlt : k < ns.length
      · have hck := hc k hlt
        clear hc
        generalize hy : ns[k] = y at hck
        have HY : Hid (ns[k]? = some y) := by rw [← hy]; exact List.getElem?_eq_getElem hlt
        clear hy
        go_wp2
        · go_ret
          rw [idx_hit HY.out HB.out (by assumption)]
          exact ⟨rfl, rfl⟩
        · go_round
          case rel => exact ⟨k + 1, by omega, by go_num, bef_succ HY.out HB.out (by assumption)⟩
          case measure => simp [intOf]; omega
      · go_wp2
        go_ret
        have : k = ns.length := by omega
        subst this
        rw [idx_miss HB.out]
        exact ⟨rfl, rfl⟩
end Go.Proofs.Ybulkuoc
