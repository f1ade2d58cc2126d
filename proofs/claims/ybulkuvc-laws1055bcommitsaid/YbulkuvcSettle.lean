/- (*Store).recount, (*draft).settle. -/
import Derived.Test.YbulkuvcCount
namespace Go.Proofs.Ybulkuvc
open Go.RowKit Go.Maps Go.WideMaps

/-- How many of the roles gs name the node n. -/
def cnt (gs : List (List Nat)) (n : Nat) : Nat := (gs.filter (fun ks => decide (n ∈ ks))).length

theorem cnt_append (a b : List (List Nat)) (n : Nat) : cnt (a ++ b) n = cnt a n + cnt b n := by simp [cnt]
theorem cnt_one (ks : List Nat) (n : Nat) : cnt [ks] n = if n ∈ ks then 1 else 0 := by
  by_cases h : n ∈ ks <;> simp [cnt, h]
theorem cnt_le (gs : List (List Nat)) (n : Nat) : cnt gs n ≤ gs.length := List.length_filter_le _ _
theorem cnt_perm {a b : List (List Nat)} (h : a.Perm b) (n : Nat) : cnt a n = cnt b n := (h.filter _).length_eq

/-- The draft's list of roles: the slices in the row v, each naming its nodes. -/
structure Now (w : World) (base : Nat) (v : Value) (gs : List (List Nat)) : Prop where
  ex : ∃ vs : List Value, w.ownsRow base 55 1 v gs.length vs ∧ ∀ j (h : j < gs.length), ∃ u, vs[j]? = some u ∧ Gr w u gs[j]

theorem Now.keep {w w' : World} {base : Nat} {v : Value} {gs : List (List Nat)} {S : Nat → Prop} (h : Now w base v gs) (hf : Fr w w' S) (hn : ∀ g cs t, t = 55 ∨ t = 58 → Blk w g cs t → ¬ S g) : Now w' base v gs := by
  obtain ⟨vs, hown, hg⟩ := h.ex
  refine ⟨vs, ⟨hown.1, ?_⟩, fun j hj => ?_⟩
  · rcases hown.2 with h0 | ⟨g, cap, cur, h1, h2, h3, h4⟩
    · exact .inl h0
    · exact .inr ⟨g, cap, cur, h1, h2, (hf.block g (Array.getElem?_eq_some_iff.1 h3).1 (hn g cur 55 (.inl rfl) h3)).trans h3, h4⟩
  · obtain ⟨u, hu, hgu⟩ := hg j hj
    exact ⟨u, hu, hgu.keep hf (fun g cs hb => hn g cs 58 (.inr rfl) hb)⟩

set_option maxRecDepth 10000 in
set_option maxHeartbeats 1600000 in
theorem recount_calls (S L gb a t na ra base : Nat) (v : Value) (gs : List (List Nat)) (w : World) (hS : Sto w S L gb) (hT : Tab w L a t na ra) (hna : Mp w na []) (hv : Now w base v gs) (hG : Gnt w gb (fun _ => 0)) (hlen : gs.length ≤ 64) (hne : na ≠ gb) :
    Calls Yba.prog 31 #[.pointer (some ⟨S, 0, none⟩), .slice none 0 0, v] w fun e w' => e = .returned (.tuple #[]) ∧ Gnt w' gb (cnt gs) ∧ Fr w w' (fun k => k = gb) := by
  obtain ⟨vs, hown, hg⟩ := hv.ex
  have hsh : ∃ ad c, v = .slice ad gs.length c := by
    rcases hown.2 with ⟨rfl, h0⟩ | ⟨g, cap, cur, rfl, _⟩
    · exact ⟨_, _, by rw [h0]⟩
    · exact ⟨_, _, rfl⟩
  obtain ⟨ad, cp, rfl⟩ := hsh
  go_enter Yba.func31, Yba.ntmps31
  go_wp2_with fail
  go_loopw [12] (fun i wr => ∃ j : Nat, j ≤ gs.length ∧ i = .int .i64 j ∧ Gnt wr gb (cnt (gs.take j)) ∧ Fr w wr (fun k => k = gb)) (fun i _ => gs.length - (intOf i).toNat)
  case atStart => exact ⟨0, Nat.zero_le _, rfl, by rw [show cnt (gs.take 0) = fun _ => 0 from by funext n; rfl]; exact hG, Fr.refl w _⟩
  case round =>
    obtain ⟨j, hj, rfl, hGr, hf⟩ := hrel
    have hgm : ∃ m, Mp w gb m := by obtain ⟨m, hm, _⟩ := hG.ex; exact ⟨m, hm⟩
    obtain ⟨gm, hgm⟩ := hgm
    by_cases hjl : j < gs.length
    · obtain ⟨g, cap, e, _, hgl⟩ := hown.form (by omega)
      simp only [Value.slice.injEq] at e
      obtain ⟨rfl, -, rfl⟩ := e
      obtain ⟨u, hu, hgu⟩ := hg j hjl
      have hcu : wr.cell? ⟨g, j, none⟩ = some u := by
        have h1 := hown.cellAt j (by omega)
        have hblk : w.heap[g]? ≠ none := by simp [hgl]
        have h2 : wr.heap[g]? = w.heap[g]? := hf.block g hgl (by
          intro e; subst e
          obtain ⟨es, cc, hb⟩ := hgm.obj
          rcases hown.2 with ⟨h0, _⟩ | ⟨g', cap', cur, h0, _, h3, _⟩
          · cases h0
          · simp at h0; obtain ⟨rfl, _⟩ := h0; rw [hb] at h3; cases h3)
        rw [World.cell?_of_block h2, h1, hu]
      have hgr := hgu.keep hf (fun g' cs hb => hb.neMp hgm)
      have htk : gs.take (j + 1) = gs.take j ++ [gs[j]] := by rw [List.take_add_one, List.getElem?_eq_getElem hjl]; rfl
      generalize gs[j] = ks at *
      obtain ⟨g0, cap0, cs0, rfl, _⟩ := hgu.ex
      go_wp2_with fail
      refine Calls.mono (count_calls S L gb a t na ra _ ks _ wr (hS.keep hf (hS.neMp hgm)) (hT.keep hf (hT.neMp hgm)) (hna.keep hf hne) hgr hGr (fun n => by have := cnt_le (gs.take j) n; rw [List.length_take] at this; omega) hne) ?_
      rintro e w2 ⟨rfl, hG2, hf2⟩
      go_wp2_with fail
      refine ⟨⟨j + 1, hjl, by go_num, ?_, hf.trans hf2 (fun k _ e => e)⟩, by simp [intOf]; omega⟩
      rw [show cnt (gs.take (j + 1)) = fun n => cnt (gs.take j) n + if n ∈ ks then 1 else 0 from by funext n; rw [htk, cnt_append, cnt_one]]
      exact hG2
    · have hje : j = gs.length := by omega
      subst hje
      rw [List.take_length] at hGr
      go_wp2_with fail
      go_loopw [22] (fun i wq => i = .int .i64 0 ∧ wq = wr) (fun _ _ => 0)
      case atStart => exact ⟨rfl, rfl⟩
      case round =>
        obtain ⟨rfl, rfl⟩ := hrel
        go_wp2_with fail
        go_end0
        exact ⟨rfl, hGr, hf⟩

theorem wpList_mnext0 {ops : Array Oper} {rest : List Oper} {o : Oper} {a : Act} {Q : Exit → Act → World → Prop} (w : World) (hg : o.guard = none) (it : Operand) (hop : o.op = Op.next it false) {b r : Nat} {m : Ents} (h : Rg w b r m []) (hit : a.eval it = .pointer (some ⟨r, 0, none⟩))
    (hDone : wpList Yba.prog ops Q rest (a.put o.dst (.tuple #[.bool false])) w) : wpList Yba.prog ops Q (o :: rest) a w :=
  wpList_mnext w hg it hop h hit (fun _ => hDone) (fun _ _ _ _ hm => by simp at hm)

set_option maxRecDepth 10000 in
set_option maxHeartbeats 1600000 in
theorem settle_calls (D S L gb a t na ra a' t' na' ra' base : Nat) (ed : Int) (v : Value) (gs : List (List Nat)) (w : World) (hD : Dra w D S a' t' na' ra' ed v) (hna' : Mp w na' []) (hS : Sto w S L gb) (hT : Tab w L a t na ra) (hna : Mp w na []) (hv : Now w base v gs) (hG : Gnt w gb (fun _ => 0)) (hlen : gs.length ≤ 64) (hne : na ≠ gb) :
    Calls Yba.prog 15 #[.pointer (some ⟨D, 0, none⟩)] w fun e w' => e = .returned (.tuple #[]) ∧ Gnt w' gb (cnt gs) ∧ Fr w w' (fun k => k = gb) := by
  have d0 := hD.cell? 0
  have d3 := hD.cell? 3
  go_enter Yba.func15, Yba.ntmps15
  go_wp2_with (first
    | (at_range; refine wpList_mrange _ rfl _ 66 rfl hna' Yba.underlying66 rfl ?_; intro w1 hrg hg1 hs1)
    | fail)
  have hf1 : Fr w w1 (fun _ => False) := (Fr.refl w _).grown hg1 (by simp)
  have hS1 := hS.keep hf1 (by simp)
  have hD1 := hD.keep hf1 (by simp)
  have e6 := hD1.cell? 6
  have e7 := hD1.cell? 7
  go_frame
  go_loopw [3] (fun _ wq => wq = w1) (fun _ _ => 0)
  case atStart => rfl
  case round =>
    subst hrel
    go_wp2_with (first
      | (at_next; refine wpList_mnext0 _ rfl _ rfl hrg rfl ?_)
      | fail)
    have hdr1 : Fr w wr.drew (fun _ => False) := hf1.drew
    go_region_with (go_at_call 31; refine Calls.mono (recount_calls S L gb a t na ra base v gs _ (hS.keep hdr1 (by simp)) (hT.keep hdr1 (by simp)) (hna.keep hdr1 (by simp)) (hv.keep hdr1 (by simp)) (hG.keep hdr1 (by simp)) hlen hne) ?_; rintro e w2 ⟨rfl, hG2, hf2⟩)
    all_goals
      go_end0
      exact ⟨rfl, hG2, (hdr1.mono (fun _ _ e => e.elim)).trans hf2 (fun _ _ e => e)⟩
end Go.Proofs.Ybulkuvc
