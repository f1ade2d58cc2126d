/- slices.insertionSortCmpFunc over places: some permutation. -/
import Derived.Test.YbulkuocCmp
namespace Go.Proofs.Ybulkuoc
open Go.RowKit

theorem swap_perm {l : List Nat} {i j x y : Nat} (hx : l[i]? = some x) (hy : l[j]? = some y) : ((l.set i y).set j x).Perm l := by
  obtain ⟨hi, rfl⟩ := List.getElem?_eq_some_iff.1 hx
  obtain ⟨hj, rfl⟩ := List.getElem?_eq_some_iff.1 hy
  exact List.set_set_perm hi hj

/-- What the sort's rounds keep. -/
structure Srt (c : Tc) (K : Nat → Option Ent) (v : Tv) (box k g cp n : Nat) (l : List Nat) (w0 w : World) : Prop where
  ex : ∃ l', l'.Perm l ∧ St c (upd K k ⟨3, 1, n, .slice (some ⟨g, 0, none⟩) n cp, ints l'⟩) v w
  bx : Blk w box #[.pointer (some ⟨c.C, 0, none⟩)] 28
  bel : Below c.base w0 w

theorem Srt.drewN {c : Tc} {K : Nat → Option Ent} {v : Tv} {box k g cp n : Nat} {l : List Nat} {w0 w : World} (h : Srt c K v box k g cp n l w0 w) (m : Nat) : Srt c K v box k g cp n l w0 (w.drewN m) := by
  obtain ⟨l', h1, h2⟩ := h.ex
  exact ⟨⟨l', h1, h2.drewN m⟩, h.bx, below_drewN h.bel m⟩

set_option maxRecDepth 20000 in
set_option maxHeartbeats 3200000 in
theorem insertion_calls (c : Tc) (K : Nat → Option Ent) (v : Tv) (w : World) (box k g cp n gI M cI : Nat) (l I : List Nat) (h : Srt c K v box k g cp n l w w) (hn : l.length = n) (hn8 : n ≤ 12) (hids : v.ids = .slice (some ⟨gI, 0, none⟩) M cI) (h1 : K 1 = some ⟨3, 1, M, v.ids, ints I⟩) (hI : I.length = M) (hk1 : k ≠ 1) (hlt : ∀ x ∈ l, x < M) :
    Calls Yba.prog 78 #[.slice (some ⟨g, 0, none⟩) n cp, .int .i64 0, .int .i64 (n : Nat), .func (.func 40) #[] #[.pointer (some ⟨box, 0, none⟩)]] w fun e w' => e = .returned (.tuple #[]) ∧ Srt c K v box k g cp n l w w' := by
  have HLT : Hid (∀ x ∈ l, x < M) := hlt
  clear hlt
  go_enter Yba.func78, Yba.ntmps78
  go_wp2_with fail
  go_loopw [8] (fun iv wr => (∃ i : Nat, 1 ≤ i ∧ i ≤ n + 1 ∧ iv = .int .i64 i) ∧ Srt c K v box k g cp n l w wr) (fun iv _ => n + 1 - (intOf iv).toNat)
  case atStart => exact ⟨⟨1, Nat.le_refl _, by omega, rfl⟩, h⟩
  case round =>
    clear h
    obtain ⟨⟨i, hi1, hin, rfl⟩, h⟩ := hrel
    by_cases hi : i < n
    · have hi' : (i : Int) < (n : Int) := by omega
      go_wp2_with fail
      go_loopw [9] (fun jv wq => (∃ j : Nat, j ≤ i ∧ jv = .int .i64 j) ∧ Srt c K v box k g cp n l w wq) (fun jv _ => (intOf jv).toNat)
      case atStart => exact ⟨⟨i, Nat.le_refl _, rfl⟩, h⟩
      case round =>
        clear h
        obtain ⟨⟨j, hj, rfl⟩, h⟩ := hrel
        by_cases hj0 : 0 < j
        · have hj0' : (0 : Int) < (j : Int) := by omega
          obtain ⟨l', hp, hst⟩ := h.ex
          have hl' := hp.length_eq
          have ek := upd_same K k ⟨3, 1, n, .slice (some ⟨g, 0, none⟩) n cp, ints l'⟩
          obtain ⟨x, hx⟩ : ∃ x, l'[j]? = some x := ⟨_, List.getElem?_eq_getElem (by omega)⟩
          obtain ⟨y, hy⟩ : ∃ y, l'[j - 1]? = some y := ⟨_, List.getElem?_eq_getElem (by omega)⟩
          have cx := hst.sep.cell ek (ints_at hx)
          have cy := hst.sep.cell ek (ints_at hy)
          have hj1 : ((j : Int) - 1) = ((j - 1 : Nat) : Int) := by omega
          have hjn : (j : Int) < (n : Int) := by omega
          have hxM := HLT.out x (hp.subset (List.mem_of_getElem? hx))
          have hyM := HLT.out y (hp.subset (List.mem_of_getElem? hy))
          have e1 : upd K k ⟨3, 1, n, .slice (some ⟨g, 0, none⟩) n cp, ints l'⟩ 1 = some ⟨3, 1, M, .slice (some ⟨gI, 0, none⟩) M cI, ints I⟩ := by rw [upd_other _ _ (Ne.symm hk1), ← hids]; exact h1
          obtain ⟨ix, hix⟩ : ∃ ix, I[x]? = some ix := ⟨_, List.getElem?_eq_getElem (by omega)⟩
          obtain ⟨iy, hiy⟩ : ∃ iy, I[y]? = some iy := ⟨_, List.getElem?_eq_getElem (by omega)⟩
          have dx := hst.sep.cell e1 (ints_at hix)
          have dy := hst.sep.cell e1 (ints_at hiy)
          have c6 : wr.cell? ⟨c.C, 6, none⟩ = some (.slice (some ⟨gI, 0, none⟩) M cI) := by rw [← hids]; exact hst.hC.cell? 6
          have cb : wr.cell? ⟨box, 0, none⟩ = some (.pointer (some ⟨c.C, 0, none⟩)) := h.bx.cell? 0
          go_wp2_with fail
          go_quiet ((go_at_call 40; exact Calls.quiet_of (cmpIds_calls c.C box gI M cI x y ix iy _ cb c6 hxM hyM dx dy)))
          go_wp2_with fail
          · have hst2 := hst.drewN nq
            have cx2 := hst2.sep.cell ek (ints_at hx)
            have cy2 := hst2.sep.cell ek (ints_at hy)
            have fx2 := hst2.sep.free ek j
            have fy2 := hst2.sep.free ek (j - 1)
            have hbl2 := below_drewN h.bel nq
            have hbx2 : Blk (wr.drewN nq) box #[.pointer (some ⟨c.C, 0, none⟩)] 28 := h.bx
            generalize wr.drewN nq = wz at *
            go_region
            go_wp2_with fail
            have hs3 := hst2.sep.put ek (j := j) (.int .i64 (y : Int))
            rw [upd_upd, ints_set] at hs3
            have hs4 := hs3.put (upd_same _ _ _) (j := j - 1) (.int .i64 (x : Int))
            rw [upd_upd, ints_set] at hs4
            have hgb : g ≠ box := fun e => hst2.sep.neTy hbx2 ek (show (3 : Nat) ≠ 28 by decide) (by rw [← e]; rfl)
            have hbg := (hst2.sep.lt ek g rfl).1
            have hg2 : wz.grownBy ((wz.setCell ⟨g, j, none⟩ (.int .i64 (y : Int))).setCell ⟨g, j - 1, none⟩ (.int .i64 (x : Int))) (some g) := ⟨rfl, rfl, rfl, by simp, fun b _ hb => (Below.heap_setCell _ _ _ _ (fun e => hb (by rw [e]))).trans (Below.heap_setCell _ _ _ _ (fun e => hb (by rw [e])))⟩
            have hty3 : ∀ a b, upd K k ⟨3, 1, n, .slice (some ⟨g, 0, none⟩) n cp, ints ((l'.set j y).set (j - 1) x)⟩ a = some b → TyOk b.t := by
              have ht := upd_ty hst2.ty k ⟨3, 1, n, .slice (some ⟨g, 0, none⟩) n cp, ints ((l'.set j y).set (j - 1) x)⟩ ty3
              rwa [upd_upd] at ht
            have hst3 := hst2.grow hs4 hty3 hg2 (fun b e => ⟨k, _, ek, by cases e; rfl⟩)
            refine ⟨⟨⟨j - 1, by omega, by go_num⟩, ⟨⟨_, (swap_perm hx hy).trans hp, hst3.drew⟩, ?_, ((hbl2.setCell hbg _).setCell hbg _).drew⟩⟩, by simp [intOf]; omega⟩
            exact (hbx2.other (Ne.symm hgb) _).other (Ne.symm hgb) _
          · exact ⟨⟨⟨i + 1, by omega, by omega, by go_num⟩, h.drewN nq⟩, by simp [intOf]; omega⟩
        · have hj0' : decide ((0 : Int) < (j : Int)) = false := by simp; omega
          go_wp2_with fail
          go_quiet (fail)
          go_wp2_with fail
          exact ⟨⟨⟨i + 1, by omega, by omega, by go_num⟩, h.drewN nq⟩, by simp [intOf]; omega⟩
    · have hi' : ¬ ((i : Int) < (n : Int)) := by omega
      go_wp2_with fail
      go_end0
      exact ⟨rfl, h⟩
end Go.Proofs.Ybulkuoc
