/- leadsToV. -/
import Derived.Test.YbulkuocSpA
namespace Go.Proofs.Ybulkuoc
open Go.RowKit

theorem only_one : ∀ {l : List Nat}, l.Nodup → (∀ x ∈ l, x = 1) → 1 ∈ l → l = [1]
  | [], _, _, h => by simp at h
  | [x], _, h, _ => by rw [h x (by simp)]
  | x :: y :: l, hn, h, _ => by
    have h1 := h x (by simp)
    have h2 := h y (by simp)
    simp [h1, h2] at hn

theorem plsOf_nil {l : List Nat} (hn : l.Nodup) (h0 : 0 ∈ l) : plsOf (plJ []) (-1) l = [1] := by
  refine only_one (plsOf_nodup hn ?_) ?_ ?_
  · intro u _ u' _ q h1 h2
    have := (plOf_pc.1 h1).1
    have := (plOf_pc.1 h2).1
    simp at *
    omega
  · intro q hq
    obtain ⟨u, hu, hp, _⟩ := mem_plsOf.1 hq
    obtain ⟨h1, rfl⟩ := plOf_pc.1 hp
    simp at h1
    subst h1
    rfl
  · exact mem_plsOf.2 ⟨0, h0, by simp [plOf], by omega⟩

set_option maxRecDepth 20000 in
set_option maxHeartbeats 3200000 in
theorem leadsToV_calls (c : Tc) (K D : Nat → Option Ent) (v : Tv) (w : World) (l : List Nat) (O I : Nat → List Nat) (L : Nat → Int) (B m ks : Nat) (x : Value) (h : St c K v w) (hR : Rw c K v D [] O I L B m) (hb : c.base ≤ w.heap.size) (hN : 2 ≤ c.N)
    (hks : K ks = some ⟨3, 1, l.length, x, ints l⟩) (hks1 : 1001 ≠ ks) (hl : l.length ≤ 8) (hlt : ∀ y ∈ l, y < c.N) (hn : l.Nodup) (h0 : 0 ∈ l) :
    Calls Yba.prog 29 #[.pointer (some ⟨c.C, 0, none⟩), x] w fun e w' => e = .returned (.bool true) ∧ Below c.base w w' ∧ ∃ n y xs, St c (upd K 1001 ⟨3, 1, n, y, xs⟩) v w' := by
  obtain ⟨gI, cI, hidv, _⟩ := h.sep.form hR.r1 |>.2 |>.resolve_left (by rintro ⟨_, h2⟩; simp at h2)
  have hids : v.ids = .slice (some ⟨gI, 0, none⟩) 2 cI := hidv
  obtain ⟨gp, cp, hplv, _⟩ := h.sep.form hR.r0 |>.2 |>.resolve_left (by rintro ⟨_, h2⟩; simp at h2; omega)
  have hpl : c.pl = .slice (some ⟨gp, 0, none⟩) c.N cp := hplv
  obtain ⟨gg, cg, hgov, _⟩ := h.sep.form hR.r4 |>.2 |>.resolve_left (by rintro ⟨_, h2⟩; simp at h2)
  have hgo : v.gone = .slice (some ⟨gg, 0, none⟩) 2 cg := hgov
  obtain ⟨gr, cr, hrv, _⟩ := h.sep.form hR.r5 |>.2 |>.resolve_left (by rintro ⟨_, h2⟩; simp at h2)
  have hre : v.reached = .slice (some ⟨gr, 0, none⟩) 2 cr := hrv
  have h5 : K 5 = some ⟨4, 1, 2, .slice (some ⟨gr, 0, none⟩) 2 cr, [.bool false, .bool true]⟩ := by rw [← hre]; exact hR.r5
  have HLT : Hid (∀ y ∈ l, y < c.N) := hlt
  have HPL := plsOf_nil hn h0
  have hpc : Calls Yba.prog 26 #[.pointer (some ⟨c.C, 0, none⟩), x, .int .i64 (-1)] w fun e w' => ∃ y, e = .returned y ∧ Below c.base w w' ∧ St c (upd K 1001 ⟨3, 1, 1, y, ints [1]⟩) v w' := by
    refine Calls.mono (placesOf_calls c K v w h hb 1001 ks 2 2 gg cg gp cp gI cI (-1) x l [0, c.N] (plJ []) hks hl HLT.out (by omega) hpl hR.r0 hgo hR.r4 (by omega) (fun u _ => plJ_le [] u) (by omega) (by omega) hids hR.r1 rfl (by rw [HPL]; simp)) ?_
    rintro e w' ⟨y, h1, h2, l', hp, hs⟩
    rw [HPL, List.perm_singleton] at hp
    subst hp
    exact ⟨y, h1, h2, hs⟩
  clear hlt hidv hplv hgov hrv hn h0 HPL hR
  go_enter Yba.func29, Yba.ntmps29
  go_upto_region 2 with (go_at_call 26; refine Calls.mono hpc ?_; rintro e w1 ⟨y, rfl, hb1, hs1⟩; obtain ⟨ra, rc, rfl, hra⟩ := hs1.sep.shape (upd_same _ _ _))
  obtain ⟨g, rfl⟩ := hra (by omega)
  have cy := hs1.sep.cell (upd_same _ _ _) (j := 0) (x := .int .i64 1) rfl
  have c15 : w1.cell? ⟨c.C, 15, none⟩ = some (.pointer (some ⟨c.BT, 0, none⟩)) := hs1.hC.cell? 15
  have b0 : w1.cell? ⟨c.BT, 0, none⟩ = some (.slice (some ⟨gr, 0, none⟩) 2 cr) := by rw [← hre]; exact hs1.hBT.cell? 0
  have cr1 := hs1.sep.cell (k := 5) (by rw [upd_other _ _ (by omega)]; exact h5) (j := 1) (x := .bool true) rfl
  clear hpc
  go_loopw [11] (fun i wq => i = .int .i64 0 ∧ wq = w1) (fun _ _ => 0)
  case atStart => exact ⟨rfl, rfl⟩
  case round =>
    obtain ⟨rfl, hw⟩ := hrel
    replace hw := hw.symm
    subst hw
    go_wp2_with fail
    go_ret
    exact ⟨rfl, hb1, _, _, _, hs1⟩
end Go.Proofs.Ybulkuoc
