/- zzs1042awork. -/
import Derived.Test.YbulkuocDist
namespace Go.Proofs.Ybulkuoc
open Go.RowKit

/-- What node x costs. -/
def term (A P : Nat → List Nat) (d : Nat → Int) (W x : Nat) : Nat := if 0 ≤ d x then 1 + (P x).length + (if x = W then 0 else 1 + (A x).length) else 0
def workTo (A P : Nat → List Nat) (d : Nat → Int) (W k : Nat) : Nat := 1 + (A W).length + ((List.range' 1 (k - 1)).map (term A P d W)).sum
theorem workTo_succ (A P : Nat → List Nat) (d : Nat → Int) (W k : Nat) (hk : 1 ≤ k) : workTo A P d W (k + 1) = workTo A P d W k + term A P d W k := by
  unfold workTo
  have : List.range' 1 (k + 1 - 1) = List.range' 1 (k - 1) ++ [k] := by
    obtain ⟨j, rfl⟩ : ∃ j, k = j + 1 := ⟨k - 1, by omega⟩
    simp only [Nat.add_sub_cancel]
    rw [List.range'_concat]
    simp [Nat.add_comm]
  rw [this]
  simp
  omega

set_option maxRecDepth 10000 in
set_option maxHeartbeats 1600000 in
theorem work_calls (N W base ga ca gp cp gd cd : Nat) (A P : Nat → List Nat) (d : Nat → Int) (K : Nat → Option Ent) (w : World) (hN : N ≤ 8) (hW : 1 ≤ W) (hWN : W < N) (hs : Sep w base K) (hm : Mat K 19 100 N (.slice (some ⟨ga, 0, none⟩) N ca) A) (hp : Mat K 20 200 N (.slice (some ⟨gp, 0, none⟩) N cp) P) (hd : K 21 = some ⟨3, 1, N, .slice (some ⟨gd, 0, none⟩) N cd, rowOf d N⟩)
    (hA : ∀ y, y < N → (A y).length ≤ 8) (hP : ∀ y, y < N → (P y).length ≤ 8) :
    Calls Yba.prog 13 #[.int .i64 (N : Nat), .int .i64 (W : Nat), .slice (some ⟨ga, 0, none⟩) N ca, .slice (some ⟨gp, 0, none⟩) N cp, .slice (some ⟨gd, 0, none⟩) N cd] w fun r w' => r = .returned (.int .i64 (workTo A P d W N : Nat)) ∧ w' = w := by
  obtain ⟨rW, cW, hrW⟩ := hm.row hs hWN
  obtain ⟨ra, rc, rfl, _⟩ := hs.shape hrW
  have hWN' : (W : Int) < (N : Int) := by omega
  have hAW := hA W hWN
  have HA : Hid (∀ y, y < N → (A y).length ≤ 8) := hA
  have HP : Hid (∀ y, y < N → (P y).length ≤ 8) := hP
  clear hA hP
  go_enter Yba.func13, Yba.ntmps13
  go_wp2_with fail
  go_loopw [11, 12] (fun tv xv wr => wr = w ∧ ∃ x : Nat, 1 ≤ x ∧ x ≤ N ∧ xv = .int .i64 x ∧ tv = .int .i64 (workTo A P d W x : Nat) ∧ workTo A P d W x ≤ 100 * x) (fun _ xv _ => N - (intOf xv).toNat)
  case atStart => exact ⟨rfl, 1, Nat.le_refl _, by omega, rfl, by simp [workTo], by simp [workTo]; omega⟩
  case round =>
    obtain ⟨hw, x, hx1, hxN, rfl, rfl, hbd⟩ := hrel
    replace hw := hw.symm
    subst hw
    by_cases hx : x < N
    · have hx' : (x : Int) < (N : Int) := by omega
      have cd := hs.cell hd (rowOf_get d hx)
      obtain ⟨rp, cp', hrp⟩ := hp.row hs hx
      obtain ⟨pa, pc, rfl, _⟩ := hs.shape hrp
      obtain ⟨rx, cx, hrx⟩ := hm.row hs hx
      obtain ⟨xa, xc, rfl, _⟩ := hs.shape hrx
      have h8 := HA.out x hx
      have p8 := HP.out x hx
      have hws := workTo_succ A P d W x hx1
      generalize workTo A P d W x = T at *
      by_cases hd0 : d x < 0
      · have ht : term A P d W x = 0 := by simp [term]; omega
        go_wp2_with fail
        go_roundw
        case rel => exact ⟨trivial, x + 1, by omega, by omega, by go_num, by rw [hws, ht]; rfl, by omega⟩
        case measure => simp [intOf]; omega
      · by_cases hxW : x = W
        · subst hxW
          have ht : term A P d x x = 1 + (P x).length := by simp [term]; omega
          go_wp2_with fail
          go_roundw
          case rel => exact ⟨trivial, x + 1, by omega, by omega, by go_num, by rw [hws, ht]; go_num, by omega⟩
          case measure => simp [intOf]; omega
        · have hxW' : ¬ ((x : Int) = (W : Int)) := by omega
          have ht : term A P d W x = 1 + (P x).length + (1 + (A x).length) := by simp [term, hxW]; omega
          go_wp2_with fail
          go_roundw
          case rel => exact ⟨trivial, x + 1, by omega, by omega, by go_num, by rw [hws, ht]; go_num, by omega⟩
          case measure => simp [intOf]; omega
    · have hx' : ¬ ((x : Int) < (N : Int)) := by omega
      have hxe : x = N := by omega
      subst hxe
      go_wp2_with fail
      go_ret
      exact ⟨rfl, rfl⟩
end Go.Proofs.Ybulkuoc
