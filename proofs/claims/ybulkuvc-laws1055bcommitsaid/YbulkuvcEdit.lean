/- (*draft).edit. -/
import Derived.Test.YbulkuvcSettle
namespace Go.Proofs.Ybulkuvc
open Go.RowKit Go.Maps Go.WideMaps

theorem perm_fresh {done todo todo' m : Ents} {s : ByteArray} {v : Value} (hn : (m.map Prod.fst).Nodup) (hp : (done ++ todo).Perm m) (hq : todo.Perm ((s, v) :: todo')) : look done s = none ∧ ((done ++ [(s, v)]) ++ todo').Perm m := by
  have hp2 : (done ++ ((s, v) :: todo')).Perm m := ((List.Perm.refl done).append hq.symm).trans hp
  constructor
  · rw [look_none]
    intro u hu
    have hnd := (hp2.map Prod.fst).nodup_iff.2 hn
    rw [List.map_append, List.nodup_append] at hnd
    exact hnd.2.2 s (List.mem_map.2 ⟨_, hu, rfl⟩) s (by simp) rfl
  · simpa using hp2

theorem Rg.keep {w w' : World} {b r : Nat} {m todo : Ents} {S : Nat → Prop} (h : Rg w b r m todo) (hf : Fr w w' S) (h1 : ¬ S b) (h2 : ¬ S r) : Rg w' b r m todo := h.same (hf.block b h.mp.lt h1) (hf.block r h.lt h2)

set_option maxRecDepth 10000 in
set_option maxHeartbeats 3200000 in
theorem edit_calls (D S L a t na ra a' t' na' ra' : Nat) (ed : Int) (v : Value) (m : Ents) (w : World) (hD : Dra w D S a' t' na' ra' ed v) (ha' : Mp w a' []) (hna' : Mp w na' []) (hra' : Mp w ra' []) (ht' : Mp w t' m) (hT : Tab w L a t na ra) (htn : Mp w t []) (hne : t ≠ t') (hml : m.length ≤ 4) :
    Calls Yba.prog 12 #[.pointer (some ⟨D, 0, none⟩), .pointer (some ⟨L, 0, none⟩)] w fun e w' => e = .returned (.tuple #[]) ∧ (∃ m', m'.Perm m ∧ Mp w' t m') ∧ Fr w w' (fun k => k = t) := by
  have d1 := hD.cell? 1
  go_enter Yba.func12, Yba.ntmps12
  go_wp2_with (first
    | (at_range; refine wpList_mrange _ rfl _ 64 rfl ha' Yba.underlying64 rfl ?_; intro w1 hrg1 hg1 hs1)
    | fail)
  have hf1 : Fr w w1 (fun _ => False) := (Fr.refl w _).grown hg1 (by simp)
  have e1 := (hD.keep hf1 (by simp)).cell? 3
  go_frame
  go_loopw [4] (fun _ wq => wq = w1) (fun _ _ => 0)
  case atStart => rfl
  case round =>
    subst hrel
    go_wp2_with (first
      | (at_next; refine wpList_mnext0 _ rfl _ rfl hrg1 rfl ?_)
      | (at_range; refine wpList_mrange _ rfl _ 66 rfl (hna'.keep hf1 (by simp)) Yba.underlying66 rfl ?_; intro w2 hrg2 hg2 hs2)
      | fail)
    have hf2 : Fr w w2 (fun _ => False) := hf1.grown hg2 (by simp)
    have e2 := (hD.keep hf2 (by simp)).cell? 4
    clear e1 d1
    go_frame
    go_loopw [14] (fun _ wq => wq = w2) (fun _ _ => 0)
    case atStart => rfl
    case round =>
      subst hrel
      go_wp2_with (first
        | (at_next; refine wpList_mnext0 _ rfl _ rfl hrg2 rfl ?_)
        | (at_range; refine wpList_mrange _ rfl _ 66 rfl (hra'.keep hf2 (by simp)) Yba.underlying66 rfl ?_; intro w3 hrg3 hg3 hs3)
        | fail)
      have hf3 : Fr w w3 (fun _ => False) := hf2.grown hg3 (by simp)
      have e3 := (hD.keep hf3 (by simp)).cell? 1
      clear e2
      go_frame
      go_loopw [16] (fun _ wq => wq = w3) (fun _ _ => 0)
      case atStart => rfl
      case round =>
        subst hrel
        go_wp2_with (first
          | (at_next; refine wpList_mnext0 _ rfl _ rfl hrg3 rfl ?_)
          | (at_range; refine wpList_mrange _ rfl _ 64 rfl (ha'.keep hf3 (by simp)) Yba.underlying64 rfl ?_; intro w4 hrg4 hg4 hs4)
          | fail)
        have hf4 : Fr w w4 (fun _ => False) := hf3.grown hg4 (by simp)
        have e4 := (hD.keep hf4 (by simp)).cell? 2
        clear e3
        go_frame
        go_loopw [18] (fun _ wq => wq = w4) (fun _ _ => 0)
        case atStart => rfl
        case round =>
          subst hrel
          go_wp2_with (first
            | (at_next; refine wpList_mnext0 _ rfl _ rfl hrg4 rfl ?_)
            | (at_range; refine wpList_mrange _ rfl _ 65 rfl (ht'.keep hf4 (by simp)) Yba.underlying65 rfl ?_; intro w5 hrg5 hg5 hs5)
            | fail)
          have hf5 : Fr w w5 (fun _ => False) := hf4.grown hg5 (by simp)
          have hTt := hT.neMp htn
          have hr := hrg5.lt
          generalize hr5 : wr.heap.size = r5 at hrg5 hs5 ⊢
          have hr6 : w.heap.size ≤ r5 := by have := hf4.size; omega
          have hlt := htn.lt
          clear e4
          go_frame
          clear hr5
          go_loopw [20] (fun _ wq => ∃ done todo, (done ++ todo).Perm m ∧ Rg wq t' r5 m todo ∧ Mp wq t done ∧ Fr w wq (fun k => k = t)) (fun _ wq => wq.rangeLeft t' r5)
          case atStart => exact ⟨[], m, List.Perm.refl _, hrg5, htn.keep hf5 (by simp), hf5.mono (fun _ _ e => e.elim)⟩
          case round =>
            obtain ⟨done, todo, hp, hrg, hmt, hf⟩ := hrel
            have hlen := hp.length_eq
            rw [List.length_append] at hlen
            go_wp2_with (first
              | (at_next; refine wpList_mnext _ rfl _ rfl hrg rfl ?_ ?_)
              | fail)
            · intro h0
              subst h0
              go_wp2_with fail
              go_end0
              exact ⟨rfl, ⟨done, by simpa using hp, hmt⟩, hf⟩
            · intro s v6 w6 todo' hmem hq hsz hrg6 hlt6 hg6 hs6 hen
              have hF6 : Fr wr w6 (fun k => k = r5) := (Fr.refl wr _).grown hg6 (by intro k e _; cases e; rfl)
              have hf6 : Fr w w6 (fun k => k = t) := hf.trans hF6 (by intro k hk e; omega)
              have c6 := (hT.keep hf6 hTt).cell? 1
              have hm6 := hmt.keep hF6 (by omega)
              obtain ⟨hfr, hp6⟩ := perm_fresh hrg.nd hp hq
              go_wp2_with (first
                | (at_mapUpdate; refine wpList_upd _ rfl _ _ _ 65 rfl hm6 Yba.underlying65 (by unfold maxLen; omega) s v6 rfl rfl rfl hsz ?_; intro w7 hm7 hg7; go_frame)
                | fail)
              have hF7 : Fr w6 w7 (fun k => k = t) := (Fr.refl w6 _).grown hg7 (by intro k e _; cases e; rfl)
              rw [put_new hfr] at hm7
              refine ⟨⟨done ++ [(s, v6)], todo', hp6, hrg6.keep hF7 (by omega) (by omega), hm7, hf6.trans hF7 (fun _ _ e => e)⟩, ?_⟩
              rw [rangeLeft_same (hF7.block t' hrg6.mp.lt (by omega)) (hF7.block r5 hrg6.lt (by omega))]
              exact hlt6
end Go.Proofs.Ybulkuvc
