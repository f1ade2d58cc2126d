/- (*draft).stage. -/
import Derived.Test.YbulkuvcCommit
namespace Go.Proofs.Ybulkuvc
open Go.RowKit Go.Maps Go.WideMaps

/-- A tenant's roles as they are staged: name, value, the nodes that it names. -/
abbrev Ro := List (ByteArray × Value × List Nat)
abbrev en (x : ByteArray × Value × List Nat) : ByteArray × Value := (x.1, x.2.1)
abbrev ents (q : Ro) : Ents := q.map en
abbrev kss (q : Ro) : List (List Nat) := q.map (fun x => x.2.2)

theorem perm_map_inv {α β : Type} (f : α → β) {l1 l2 : List β} (h : l1.Perm l2) : ∀ l : List α, l.map f = l1 → ∃ l', l.Perm l' ∧ l'.map f = l2 := by
  induction h with
  | nil => intro l e; exact ⟨l, .refl _, e⟩
  | cons x _ ih =>
    intro l e
    cases l with
    | nil => simp at e
    | cons y l =>
      simp only [List.map_cons, List.cons.injEq] at e
      obtain ⟨l', h1, h2⟩ := ih l e.2
      exact ⟨y :: l', h1.cons y, by simp [e.1, h2]⟩
  | swap x y _ =>
    intro l e
    match l, e with
    | p :: r :: l, e =>
      simp only [List.map_cons, List.cons.injEq] at e
      exact ⟨r :: p :: l, .swap _ _ _, by simp [e.1, e.2.1, e.2.2]⟩
    | [p], e => simp at e
    | [], e => simp at e
  | trans _ _ ih1 ih2 =>
    intro l e
    obtain ⟨l', h1, h2⟩ := ih1 l e
    obtain ⟨l'', h3, h4⟩ := ih2 l' h2
    exact ⟨l'', h1.trans h3, h4⟩

theorem zero48 (w : World) : (zeroValue 48).run Yba.prog w = .ok (.pointer none) w := by kernel_rfl
theorem info55 : (Yba.prog.info? 55).map (fun i => (i.zero, i.size, i.bytes)) = some (some (.slice none 0 0), 1, 24) := by kernel_rfl

theorem Now.shape {w : World} {base : Nat} {v : Value} {gs : List (List Nat)} (h : Now w base v gs) : ∀ k, v.ownBlock = some k → base ≤ k ∧ ∃ cs, Blk w k cs 55 := by
  obtain ⟨vs, hown, _⟩ := h.ex
  intro k hk
  rcases hown.2 with ⟨rfl, _⟩ | ⟨g, cap, cur, rfl, h2, h3, h4⟩
  · simp [Value.ownBlock] at hk
  · simp [Value.ownBlock] at hk
    subst hk
    exact ⟨h2, cur, h3⟩

theorem Now.more {w w' : World} {base : Nat} {v' u : Value} {gs : List (List Nat)} {ks : List Nat} {vs : List Value} {S : Nat → Prop} (hg : ∀ j (h : j < gs.length), ∃ u, vs[j]? = some u ∧ Gr w u gs[j]) (hl : vs.length = gs.length) (hu : Gr w u ks) (hf : Fr w w' S) (hn : ∀ g cs, Blk w g cs 58 → ¬ S g) (hown : w'.ownsRow base 55 1 v' (gs.length + 1) (vs ++ [u])) : Now w' base v' (gs ++ [ks]) := by
  refine ⟨_, by simpa using hown, ?_⟩
  intro j hj
  by_cases h : j < gs.length
  · obtain ⟨x, hx, hgx⟩ := hg j h
    refine ⟨x, ?_, ?_⟩
    · rw [List.getElem?_append_left (by omega)]; exact hx
    · rw [List.getElem_append_left h]; exact hgx.keep hf hn
  · have hj' : j = gs.length := by simp at hj; omega
    subst hj'
    refine ⟨u, ?_, ?_⟩
    · rw [List.getElem?_append_right (by omega)]; simp [hl]
    · simpa using hu.keep hf hn

theorem Dra.now {w : World} {D S a t na ra : Nat} {ed : Int} {v : Value} (h : Dra w D S a t na ra ed v) (v' : Value) : Dra (w.setCell ⟨D, 7, none⟩ v') D S a t na ra ed v' := by
  have h1 := Blk.set h 7 v'
  exact h1
theorem Dra.edits {w : World} {D S a t na ra : Nat} {ed : Int} {v : Value} (h : Dra w D S a t na ra ed v) (ed' : Int) : Dra (w.setCell ⟨D, 5, none⟩ (.int .i64 ed')) D S a t na ra ed' v := by
  have h1 := Blk.set h 5 (.int .i64 ed')
  exact h1

set_option maxRecDepth 10000 in
set_option maxHeartbeats 3200000 in
theorem stage_calls (D S L gb a t na ra a' t' na' ra' T rm um base : Nat) (ed : Int) (s id : ByteArray) (v : Value) (m : Ents) (gs : List (List Nat)) (q : Ro) (w : World) (hD : Dra w D S a' t' na' ra' ed v) (hS : Sto w S L gb) (hT : Tab w L a t na ra) (ht : Mp w t []) (hTn : Blk w T #[.string s, .map (some rm), .map (some um)] 62) (hrm : Mp w rm (ents q)) (hq : ∀ x ∈ q, Gr w x.2.1 x.2.2) (ht' : Mp w t' m) (hid : look m id = none) (hml : m.length ≤ 4) (hv : Now w base v gs) (hlen : gs.length + q.length ≤ 64) (hidl : id.size ≤ maxLen) (hbase : base ≤ w.heap.size) (he0 : 0 ≤ ed) (he1 : ed ≤ 100) :
    Calls Yba.prog 7 #[.pointer (some ⟨D, 0, none⟩), .string id, .pointer (some ⟨T, 0, none⟩)] w fun e w' => e = .returned (.tuple #[]) ∧ (∃ v' q', q'.Perm q ∧ Dra w' D S a' t' na' ra' (ed + 1) v' ∧ Now w' base v' (gs ++ kss q')) ∧ Mp w' t' (m ++ [(id, .pointer (some ⟨T, 0, none⟩))]) ∧ Fr w w' (fun k => k = D ∨ k = t' ∨ (base ≤ k ∧ ∃ cs, Blk w k cs 55)) := by
  obtain ⟨i55, hi, hz0, hz1, hz2⟩ := info_parts info55
  have d0 := hD.cell? 0
  have s9 := hS.cell? 9
  have t1 := hT.cell? 1
  have T1 := hTn.cell? 1
  go_enter Yba.func7, Yba.ntmps7
  go_wp2_with (first
    | (at_lookup; refine wpList_lookok _ rfl _ _ 65 rfl ht Yba.underlying65 (zero48 _) id rfl rfl hidl (u := .pointer none) (ok := false) rfl rfl ?_)
    | (at_range; refine wpList_mrange _ rfl _ 59 rfl hrm Yba.underlying59 rfl ?_; intro w1 hrg1 hg1 hs1)
    | fail)
  have hf1 : Fr w w1 (fun _ => False) := (Fr.refl w _).grown hg1 (by simp)
  generalize hr5 : w.heap.size = r5 at hrg1 hs1 ⊢
  have hDr : D ≠ rm := Blk.neMp hD hrm
  have hDl := Blk.lt hD
  have hrl := hrm.lt
  have htl := ht'.lt
  go_frame
  go_loopw [11] (fun _ wr => ∃ dq tq v', (dq ++ tq).Perm q ∧ Rg wr rm r5 (ents q) (ents tq) ∧ Dra wr D S a' t' na' ra' ed v' ∧ Now wr base v' (gs ++ kss dq) ∧ Fr w wr (fun k => k = D ∨ (base ≤ k ∧ ∃ cs, Blk w k cs 55))) (fun _ wr => wr.rangeLeft rm r5)
  case atStart => exact ⟨[], q, v, by simp, hrg1, Blk.keep hD hf1 (fun h => h), by simpa using hv.keep hf1 (fun _ _ _ _ _ h => h), hf1.mono (fun _ _ e => e.elim)⟩
  case round =>
    obtain ⟨dq, tq, v', hperm, hrg, hDr1, hnow, hfr⟩ := hrel
    obtain ⟨vs, hown, hvs⟩ := hnow.ex
    have hqlen := hperm.length_eq
    simp only [List.length_append] at hqlen
    have hD' := hDr1.cell? 2
    have hD5 := fun (wz : World) (hz : Dra wz D S a' t' na' ra' ed v') => hz.cell? 5
    generalize htd : ents tq = td at hrg
    have h55 : ∀ k, (base ≤ k ∧ ∃ cs, Blk w k cs 55) → k ≠ D ∧ k ≠ rm ∧ k ≠ t' ∧ k < w.heap.size := fun k ⟨_, cs, hk⟩ => ⟨hk.ne hD (by decide), hk.neMp hrm, hk.neMp ht', hk.lt⟩
    have ht'r : Mp wr t' m := ht'.keep hfr (nor (Ne.symm (Blk.neMp hD ht')) (fun h => (h55 _ h).2.2.1 rfl))
    go_wp2_with (first
      | (at_next; refine wpList_mnext _ rfl _ rfl hrg rfl ?_ ?_)
      | fail)
    · intro htodo
      subst htodo
      have htq : tq = [] := by simpa using htd
      subst htq
      go_wp2_with (first
        | (at_mapUpdate; refine wpList_upd _ rfl _ _ _ 65 rfl ht'r Yba.underlying65 (by unfold maxLen; omega) id (.pointer (some ⟨T, 0, none⟩)) rfl rfl rfl hidl ?_; intro w7 hm7 hg7; have hF7 : Fr wr w7 (fun k => k = t') := (Fr.refl wr _).grown hg7 (by intro k e _; cases e; rfl); have hD7 : Dra w7 D S a' t' na' ra' ed v' := Blk.keep hDr1 hF7 (Blk.neMp hD ht'); have y5 := hD7.cell? 5; have y5' := hD7.free 5)
        | fail)
      go_end0
      have hFD : Fr w7 (w7.setCell ⟨D, 5, none⟩ (.int .i64 (ed + 1))) (fun k => k = D) := Fr.setCell (Fr.refl w7 _) (fun _ => Eq.refl D) _
      have hF8 : Fr wr (w7.setCell ⟨D, 5, none⟩ (.int .i64 (ed + 1))) (fun k => k = t' ∨ k = D) := (hF7.mono (fun _ _ e => .inl e)).trans hFD (fun _ _ e => .inr e)
      rw [put_new hid] at hm7
      refine ⟨rfl, ⟨v', dq, by simpa using hperm, hD7.edits (ed + 1), hnow.keep hF8 ?_⟩, hm7.keep hFD (Ne.symm (Blk.neMp hD ht')), ?_⟩
      · intro g cs ty hty hb
        refine nor (hb.neMp ht'r) (hb.ne hDr1 ?_)
        rintro rfl
        exact hty.elim (by decide) (by decide)
      · refine (hfr.mono (fun k _ e => e.elim .inl (fun e => .inr (.inr e)))).trans hF8 (fun k _ e => e.elim (fun e => .inr (.inl e)) .inl)
    · intro s u w6 td' hmem hq6 hsz hrg6 hlt6 hg6 hs6 hen
      obtain ⟨tq', hpt, hmap⟩ := perm_map_inv en hq6 tq htd
      match tq', hmap with
      | x :: tq'', hmap =>
        simp only [List.map_cons, List.cons.injEq] at hmap
        obtain ⟨hx1, hx2⟩ := hmap
        have hxu : x.2.1 = u := congrArg Prod.snd hx1
        have hxq : x ∈ q := hperm.subset (List.mem_append.2 (.inr (hpt.symm.subset (by simp))))
        have hrw : w.heap.size ≤ r5 := by omega
        have hF6 : Fr wr w6 (fun k => k = r5) := (Fr.refl wr _).grown hg6 (by intro k e _; cases e; rfl)
        have hf6 : Fr w w6 (fun k => k = D ∨ (base ≤ k ∧ ∃ cs, Blk w k cs 55)) := hfr.trans hF6 (fun k hk e => by omega)
        have hD6 : Dra w6 D S a' t' na' ra' ed v' := Blk.keep hDr1 hF6 (by omega)
        have y7 := hD6.cell? 7
        have hgr : Gr w6 u x.2.2 := by
          rw [← hxu]
          exact (hq x hxq).keep hf6 (fun g cs hb => nor (hb.ne hD (by decide)) (fun ⟨_, cs', h'⟩ => hb.ne h' (by decide) rfl))
        have hor := hown
        have hown6 : w6.ownsRow base 55 1 v' (gs ++ kss dq).length vs := hown.kept (row := some r5) hg6 (.inr (fun e => by obtain ⟨_, cs, hb⟩ := hnow.shape r5 e; exact absurd rfl (hb.neRg hrg)))
        have hvl : vs.length = (gs ++ kss dq).length := by simpa using hown.1
        have hvs6 : ∀ j (h : j < (gs ++ kss dq).length), ∃ u, vs[j]? = some u ∧ Gr w6 u (gs ++ kss dq)[j] := by
          intro j hj
          obtain ⟨y, hy, hgy⟩ := hvs j hj
          exact ⟨y, hy, hgy.keep hF6 (fun g cs hb => hb.neRg hrg)⟩
        have h55' : ∀ k, v'.ownBlock = some k → k ≠ D ∧ k ≠ rm ∧ k ≠ r5 := fun k hk => by
          obtain ⟨_, cs, hb⟩ := hnow.shape k hk
          exact ⟨hb.ne hDr1 (by decide), hb.neMp hrg.mp, hb.neRg hrg⟩
        have hkl : (gs ++ kss dq).length ≤ 64 := by simp; omega
        have hb6 : base ≤ w6.heap.size := Nat.le_trans hbase hf6.size
        clear hs6
        obtain ⟨gu, nu, cu, hu⟩ : ∃ gu nu cu, u = .slice (some ⟨gu, 0, none⟩) nu cu := by obtain ⟨g, cap, cs, e, _⟩ := hgr.ex; exact ⟨_, _, _, e⟩
        subst hu
        go_wp2_with (first
          | (at_builtin; refine wpList_append_lies _ rfl _ _ 67 rfl base 55 i55 _ 1 24 Yba.underlying67 hi hz0 hz1 hz2 rfl (by omega) v' _ vs rfl (hown6.alloc _) ⟨w6.heap.size, 0, none⟩ 1 1 [.slice (some ⟨gu, 0, none⟩) nu cu] rfl rfl (cell_one_new _ _ _) (by simp [Value.oneCell']) (by omega) (by unfold maxLen; omega) (by omega) (by simp; omega) (w6.heap.size + 1) (by simp) ?_; intro g cap w8 hown8 hgrow8 hat8 hlt8; have hF8 : Fr w6 w8 (fun k => v'.ownBlock = some k) := ((Fr.refl w6 _).alloc _).grown hgrow8 (fun k e _ => e); have hD8 : Dra w8 D S a' t' na' ra' ed v' := Blk.keep hD6 hF8 (fun e => (h55' D e).1 rfl); have y8 := hD8.cell? 7; have y8' := hD8.free 7)
          | fail)
        have hgD : g ≠ D := by
          rcases hat8 with h | h
          · exact (h55' g h).1
          · have := hf6.size; omega
        generalize hN : gs.length + List.length dq + 1 = N
        have hF9 : Fr w6 (w8.setCell ⟨D, 7, none⟩ (.slice (some ⟨g, 0, none⟩) N cap)) (fun k => v'.ownBlock = some k ∨ k = D) := Fr.setCell (hF8.mono (fun _ _ e => .inl e)) (fun _ => .inr (Eq.refl D)) _
        have hown9 : (w8.setCell ⟨D, 7, none⟩ (.slice (some ⟨g, 0, none⟩) N cap)).ownsRow base 55 1 (.slice (some ⟨g, 0, none⟩) N cap) ((gs ++ kss dq).length + 1) (vs ++ [.slice (some ⟨gu, 0, none⟩) nu cu]) := by
          have h0 : (gs ++ kss dq).length + 1 = N := by simp [hN]
          rw [h0] at hown8 ⊢
          exact ownsRow_setCell_other hown8 (a := ⟨D, 7, none⟩) (by simp [Value.ownBlock]; exact hgD) _
        have hrD : r5 ≠ D := by omega
        refine ⟨⟨dq ++ [x], tq'', .slice (some ⟨g, 0, none⟩) N cap, ?_, ?_, hD8.now _, ?_, ?_⟩, ?_⟩
        · rw [List.append_assoc]
          exact ((List.Perm.refl dq).append hpt.symm).trans hperm
        · rw [show ents tq'' = td' from hx2]
          exact hrg6.keep hF9 (nor (fun e => (h55' rm e).2.1 rfl) (Ne.symm hDr)) (nor (fun e => (h55' r5 e).2.2 rfl) hrD)
        · have := Now.more hvs6 hvl hgr hF9 (fun g cs hb => nor (fun e => by obtain ⟨_, cs', h'⟩ := hnow.shape g e; exact hb.ne (h'.keep hF6 (h'.neRg hrg)) (by decide) rfl) (hb.ne hD6 (by decide))) hown9
          simpa [List.append_assoc] using this
        · refine hf6.trans hF9 (fun k hk e => ?_)
          rcases e with e | e
          · obtain ⟨hbk, cs', h'⟩ := hnow.shape k e
            by_cases hS : k = D ∨ (base ≤ k ∧ ∃ cs, Blk w k cs 55)
            · exact hS
            · exact .inr ⟨hbk, cs', (hfr.block k hk hS).symm.trans h'⟩
          · exact .inl e
        · rw [rangeLeft_same (hF9.block rm hrg6.mp.lt (nor (fun e => (h55' rm e).2.1 rfl) (Ne.symm hDr))) (hF9.block r5 hrg6.lt (nor (fun e => (h55' r5 e).2.2 rfl) hrD))]
          exact hlt6
end Go.Proofs.Ybulkuvc
