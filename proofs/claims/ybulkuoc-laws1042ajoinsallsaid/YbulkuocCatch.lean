/- catchUp, with nothing left. -/
import Derived.Test.YbulkuocBuild
import Derived.Deep.RegionLaw
import Derived.Deep.RegionWith
import Derived.BigRegion
namespace Go.Proofs.Ybulkuoc
open Go.RowKit

theorem St.heap {c : Tc} {K : Nat → Option Ent} {v : Tv} {w w' : World} (h : St c K v w) (hs : Sep w' c.base K) (he : ∀ b cs t, ¬ TyOk t → Blk w b cs t → w'.heap[b]? = w.heap[b]?) : St c K v w' :=
  ⟨hs, (he _ _ 43 (fun h => h.1 rfl) h.hC).trans h.hC, (he _ _ 49 (fun h => h.2.2.1 rfl) h.hBT).trans h.hBT, (he _ _ 47 (fun h => h.2.1 rfl) h.hTT).trans h.hTT, (he _ _ 23 (fun h => h.2.2.2 rfl) h.ha).trans h.ha, (he _ _ 23 (fun h => h.2.2.2 rfl) h.hp).trans h.hp, h.ty, h.lo⟩
theorem St.alloc {c : Tc} {K : Nat → Option Ent} {v : Tv} {w : World} (h : St c K v w) (o : Obj) : St c K v (w.alloc o) := h.heap (h.sep.alloc o) (fun _ _ _ _ hb => Below.heap_alloc _ _ _ hb.lt)
theorem St.drew {c : Tc} {K : Nat → Option Ent} {v : Tv} {w : World} (h : St c K v w) : St c K v w.drew := h.heap h.sep.drew (fun _ _ _ _ _ => rfl)
theorem St.drewN {c : Tc} {K : Nat → Option Ent} {v : Tv} {w : World} (h : St c K v w) (n : Nat) : St c K v (w.drewN n) := h.heap (h.sep.drewN n) (fun _ _ _ _ _ => rfl)
/-- A store into the through. -/
theorem St.setC {c : Tc} {K : Nat → Option Ent} {v v' : Tv} {w : World} (h : St c K v w) (i : Nat) (x : Value) (e : (thrOf c v).setIfInBounds i x = thrOf c v') (e1 : v'.reached = v.reached) (e2 : v'.frm = v.frm) (e3 : v'.len = v.len) (e4 : v'.nxt = v.nxt) (e5 : v'.met = v.met) (e6 : v'.parked = v.parked) : St c K v' (w.setCell ⟨c.C, i, none⟩ x) := by
  have k1 := h.hBT.ne h.hC (by decide)
  have k2 := h.hTT.ne h.hC (by decide)
  have k3 := h.ha.ne h.hC (by decide)
  have k4 := h.hp.ne h.hC (by decide)
  refine ⟨h.sep.setCell (fun k y hk => h.sep.neTy h.hC hk (h.ty k y hk).1) x, ?_, ?_, ?_, h.ha.other k3 x, h.hp.other k4 x, h.ty, h.lo⟩
  · rw [← e]; exact h.hC.set i x
  · rw [e1, e2]; exact h.hBT.other k1 x
  · rw [e3, e4, e5, e6]; exact h.hTT.other k2 x

set_option maxRecDepth 20000 in
set_option maxHeartbeats 3200000 in
theorem mend_calls (C TT : Nat) (w : World) :
    Calls Yba.prog 38 #[.pointer (some ⟨C, 0, none⟩), .pointer (some ⟨TT, 0, none⟩), .slice none 0 0] w fun r w' => r = .returned (.tuple #[]) ∧ ∃ o1 o2 o3, w' = ((w.alloc o1).alloc o2).alloc o3 := by
  go_enter Yba.func38, Yba.ntmps38
  go_wp2_with fail
  obtain ⟨W, hW⟩ : ∃ W, W = ((w.alloc (.cells #[.pointer (some ⟨C, 0, none⟩)] 28)).alloc (.cells #[.pointer (some ⟨TT, 0, none⟩)] 35)).alloc (.cells #[.slice none 0 0] 26) := ⟨_, rfl⟩
  have hst : Blk W (w.heap.size + 2) #[.slice none 0 0] 26 := by rw [hW]; exact blk_here (by simp)
  have c0 : W.cell? ⟨w.heap.size + 1 + 1, 0, none⟩ = some (.slice none 0 0) := hst.cell? 0
  rw [← hW]
  have HW : Hid (∃ o1 o2 o3, W = ((w.alloc o1).alloc o2).alloc o3) := ⟨_, _, _, hW⟩
  clear hW
  go_loopw [18] (fun i wq => i = .int .i64 0 ∧ wq = W) (fun _ _ => 0)
  case atStart => exact ⟨rfl, rfl⟩
  case round =>
    obtain ⟨rfl, hw⟩ := hrel
    replace hw := hw.symm
    subst hw
    go_wp2_with fail
    go_loopw [31] (fun i wq => i = .int .i64 0 ∧ wq = W) (fun _ _ => 0)
    case atStart => exact ⟨rfl, rfl⟩
    case round =>
      obtain ⟨rfl, hw⟩ := hrel
      replace hw := hw.symm
      subst hw
      go_wp2_with fail
      go_loopw [39] (fun _ wq => wq = W) (fun _ _ => 0)
      case atStart => rfl
      case round =>
        replace hrel := hrel.symm
        subst hrel
        go_wp2_with fail
        go_end0
        exact ⟨rfl, HW.out⟩

set_option maxRecDepth 20000 in
set_option maxHeartbeats 3200000 in
theorem catchUp_calls (c : Tc) (K : Nat → Option Ent) (v : Tv) (w : World) (h : St c K v w) (hb : c.base ≤ w.heap.size) :
    Calls Yba.prog 23 #[.pointer (some ⟨c.C, 0, none⟩)] w fun r w' => r = .returned (.tuple #[]) ∧ St c K v w' ∧ Below c.base w w' := by
  have c16 : w.cell? ⟨c.C, 16, none⟩ = some (.slice none 0 0) := h.hC.cell? 16
  have c17 : w.cell? ⟨c.C, 17, none⟩ = some (.slice none 0 0) := h.hC.cell? 17
  have c18 : w.cell? ⟨c.C, 18, none⟩ = some (.pointer (some ⟨c.TT, 0, none⟩)) := h.hC.cell? 18
  go_enter Yba.func23, Yba.ntmps23
  go_wp2_with fail
  go_loopw [9] (fun i wq => i = .int .i64 0 ∧ wq = w) (fun _ _ => 0)
  case atStart => exact ⟨rfl, rfl⟩
  case round =>
    obtain ⟨rfl, hw⟩ := hrel
    replace hw := hw.symm
    subst hw
    go_upto_region 6 with fail
    go_cut [41] from 27 to 41 (fun _ wc => St c K v wc ∧ Below c.base w wc)
    case first =>
      go_region_with (go_at_call 38; refine Calls.mono (mend_calls c.C c.TT _) ?_; rintro e w1 ⟨rfl, o1, o2, o3, hw1⟩)
      all_goals (go_wp2_with fail; go_meet; exact ⟨(((h.alloc o1).alloc o2).alloc o3).drew, ((((Below.refl _ _).alloc hb _).alloc (by simp; omega) _).alloc (by simp; omega) _).drew⟩)
    case rest =>
      obtain ⟨h1, hb1⟩ := hcut
      have d16 : wc.cell? ⟨c.C, 16, none⟩ = some (.slice none 0 0) := h1.hC.cell? 16
      have d17 : wc.cell? ⟨c.C, 17, none⟩ = some (.slice none 0 0) := h1.hC.cell? 17
      have f16 := h1.hC.free 16
      have f17 := h1.hC.free 17
      go_wp2_with fail
      go_end0
      have h2 : St c K v (wc.setCell ⟨c.C, 16, none⟩ (.slice none 0 0)) := h1.setC 16 _ rfl rfl rfl rfl rfl rfl rfl
      have h3 : St c K v ((wc.setCell ⟨c.C, 16, none⟩ (.slice none 0 0)).setCell ⟨c.C, 17, none⟩ (.slice none 0 0)) := h2.setC 17 _ rfl rfl rfl rfl rfl rfl rfl
      exact ⟨rfl, h3, (hb1.setCell h.lo.1 _).setCell h.lo.1 _⟩
end Go.Proofs.Ybulkuoc
