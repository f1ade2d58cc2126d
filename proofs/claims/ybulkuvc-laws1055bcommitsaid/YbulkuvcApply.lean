/- The plan's two closures. -/
import Derived.Test.YbulkuvcClone
namespace Go.Proofs.Ybulkuvc
open Go.RowKit Go.Maps Go.WideMaps

theorem info3 : (Yba.prog.info? 3).map (fun i => (i.zero, i.size, i.bytes)) = some (some (.int .i64 0), 1, 8) := by kernel_rfl

set_option maxRecDepth 10000 in
set_option maxHeartbeats 1600000 in
theorem apply_calls (lb sv lv tv gv S L gb a t na ra base : Nat) (ll x3 x4 : Value) (m gm : Ents) (w : World) (hl : Blk w lb #[.slice none 0 0] 70) (hs : Blk w sv #[.pointer (some ⟨S, 0, none⟩)] 28) (hlv : Blk w lv #[ll] 44) (htv : Blk w tv #[x3] 3) (hgv : Blk w gv #[x4] 3)
    (s9 : w.cell? ⟨S, 9, none⟩ = some (.pointer (some ⟨L, 0, none⟩))) (s10 : w.cell? ⟨S, 10, none⟩ = some (.map (some gb))) (hT : Tab w L a t na ra) (hm : Mp w t m) (hg : Mp w gb gm) (hSne : S ≠ lb ∧ S ≠ lv ∧ S ≠ tv ∧ S ≠ gv) (htg : tv ≠ gv) (hSl : S < w.heap.size) (hbase : base ≤ w.heap.size) :
    Calls Yba.prog 8 #[.pointer (some ⟨lb, 0, none⟩), .pointer (some ⟨sv, 0, none⟩), .pointer (some ⟨lv, 0, none⟩), .pointer (some ⟨tv, 0, none⟩), .pointer (some ⟨gv, 0, none⟩)] w fun e w' => e = .returned (.tuple #[]) ∧ (∃ v, Blk w' lb #[v] 70 ∧ w'.ownsRow base 3 1 v 1 [.int .i64 1] ∧ ∀ k, v.ownBlock = some k → w.heap.size ≤ k) ∧ Blk w' lv #[.pointer (some ⟨L, 0, none⟩)] 44 ∧ Blk w' tv #[.int .i64 m.length] 3 ∧ Blk w' gv #[.int .i64 gm.length] 3 ∧ Fr w w' (fun k => k = lb ∨ k = lv ∨ k = tv ∨ k = gv) := by
  obtain ⟨i3, hi, hz0, hz1, hz2⟩ := info_parts info3
  have l0 := hl.cell? 0
  have l0' := hl.free 0
  go_enter Yba.func8, Yba.ntmps8
  obtain ⟨n1, n2, n3, n4⟩ := hSne
  have m1 := hl.ne hs (by decide)
  have m2 := hl.ne hlv (by decide)
  have m3 := hl.ne htv (by decide)
  have m4 := hl.ne hgv (by decide)
  have m5 := hs.ne hlv (by decide)
  have m6 := hs.ne htv (by decide)
  have m7 := hs.ne hgv (by decide)
  have m8 := hlv.ne htv (by decide)
  have m9 := hlv.ne hgv (by decide)
  have m10 := Blk.ne hT hl (by decide)
  have m11 := Blk.ne hT hlv (by decide)
  have m12 := Blk.ne hT htv (by decide)
  go_wp2_with (first
    | (at_builtin; refine wpList_append_lies _ rfl _ _ 70 rfl base 3 i3 _ 1 8 Yba.underlying70 hi hz0 hz1 hz2 rfl (by omega) (.slice none 0 0) 0 [] rfl ((World.ownsRow_nil w base 3 1).alloc _) ⟨w.heap.size, 0, none⟩ 1 1 [.int .i64 1] rfl rfl (cell_one_new _ _ _) (by simp [Value.oneCell']) (by omega) (by decide) (by omega) (by simp; omega) (w.heap.size + 1) (by simp) ?_; intro g cap w1 hown1 hgrow hat hlt1; have hf1 : Fr w w1 (fun _ => False) := ((Fr.refl w _).alloc _).grown hgrow (by simp [Value.ownBlock]); have hl1 := hl.keep hf1 (by simp); have hs1 := hs.keep hf1 (by simp); have hlv1 := hlv.keep hf1 (by simp); have htv1 := htv.keep hf1 (by simp); have hgv1 := hgv.keep hf1 (by simp); have hT1 := Blk.keep hT hf1 (by simp); have hm1 := hm.keep hf1 (by simp); have hg1 := hg.keep hf1 (by simp); have z1 := hl1.cell? 0; have z2 := hl1.free 0; have z3 := hs1.cell? 0; have z4 := hlv1.cell? 0; have z5 := hlv1.free 0; have z6 := htv1.cell? 0; have z7 := htv1.free 0; have z8 := hgv1.cell? 0; have z9 := hgv1.free 0; have y1 := hT1.cell? 1; have y2 := (World.cell?_of_block (hf1.block S hSl (by simp))).trans s9; have y3 := (World.cell?_of_block (hf1.block S hSl (by simp))).trans s10; clear l0 l0' s9 s10 hgrow hi hz0 hz1 hz2)
    | (at_len; refine wpList_mlen _ rfl _ 65 rfl ((hm1.setCell (a := ⟨lb, 0, none⟩) (Ne.symm (hl1.neMp hm1)) _).setCell (a := ⟨lv, 0, none⟩) (Ne.symm (hlv1.neMp hm1)) _) Yba.underlying65 rfl ?_)
    | (at_len; refine wpList_mlen _ rfl _ 45 rfl (((hg1.setCell (a := ⟨lb, 0, none⟩) (Ne.symm (hl1.neMp hg1)) _).setCell (a := ⟨lv, 0, none⟩) (Ne.symm (hlv1.neMp hg1)) _).setCell (a := ⟨tv, 0, none⟩) (Ne.symm (htv1.neMp hg1)) _) Yba.underlying45 rfl ?_)
    | fail)
  go_end0
  have hgn : w.heap.size < g := by
    rcases hat with h | h
    · simp [Value.ownBlock] at h
    · omega
  have t1 := htv.lt
  have t2 := hgv.lt
  have t3 := hlv.lt
  have t4 := hl.lt
  refine ⟨rfl, ⟨.slice (some ⟨g, 0, none⟩) 1 cap, ?_, ?_, by intro k hk; simp [Value.ownBlock] at hk; omega⟩, ?_, ?_, ?_, ?_⟩
  · exact (((hl1.set 0 _).other (a := ⟨lv, 0, none⟩) m2 _).other (a := ⟨tv, 0, none⟩) m3 _).other (a := ⟨gv, 0, none⟩) m4 _
  · have h1 := ownsRow_setCell_other hown1 (a := ⟨lb, 0, none⟩) (by simp [Value.ownBlock]; omega) (.slice (some ⟨g, 0, none⟩) 1 cap)
    have h2 := ownsRow_setCell_other h1 (a := ⟨lv, 0, none⟩) (by simp [Value.ownBlock]; omega) (.pointer (some ⟨L, 0, none⟩))
    have h3 := ownsRow_setCell_other h2 (a := ⟨tv, 0, none⟩) (by simp [Value.ownBlock]; omega) (.int .i64 m.length)
    have h4 := ownsRow_setCell_other h3 (a := ⟨gv, 0, none⟩) (by simp [Value.ownBlock]; omega) (.int .i64 gm.length)
    exact h4
  · exact (((hlv1.other (a := ⟨lb, 0, none⟩) (Ne.symm m2) _).set 0 _).other (a := ⟨tv, 0, none⟩) m8 _).other (a := ⟨gv, 0, none⟩) m9 _
  · exact (((htv1.other (a := ⟨lb, 0, none⟩) (Ne.symm m3) _).other (a := ⟨lv, 0, none⟩) (Ne.symm m8) _).set 0 _).other (a := ⟨gv, 0, none⟩) htg _
  · exact (((hgv1.other (a := ⟨lb, 0, none⟩) (Ne.symm m4) _).other (a := ⟨lv, 0, none⟩) (Ne.symm m9) _).other (a := ⟨tv, 0, none⟩) (Ne.symm htg) _).set 0 _
  · exact ((((hf1.mono (fun _ _ e => e.elim)).setCell (fun _ => .inl rfl) _).setCell (fun _ => .inr (.inl rfl)) _).setCell (fun _ => .inr (.inr (.inl rfl))) _).setCell (fun _ => .inr (.inr (.inr rfl))) _

set_option maxRecDepth 10000 in
set_option maxHeartbeats 1600000 in
theorem settled_calls (lb sv av S gb base : Nat) (x2 v : Value) (gm : Ents) (w : World) (hl : Blk w lb #[v] 70) (hv : w.ownsRow base 3 1 v 1 [.int .i64 1]) (hs : Blk w sv #[.pointer (some ⟨S, 0, none⟩)] 28) (hav : Blk w av #[x2] 3)
    (s10 : w.cell? ⟨S, 10, none⟩ = some (.map (some gb))) (hg : Mp w gb gm) (hSne : S ≠ lb ∧ S ≠ av) (hSl : S < w.heap.size) (hSv : v.ownBlock ≠ some S) (hvav : v.ownBlock ≠ some av) (hbase : base ≤ w.heap.size) :
    Calls Yba.prog 9 #[.pointer (some ⟨lb, 0, none⟩), .pointer (some ⟨sv, 0, none⟩), .pointer (some ⟨av, 0, none⟩)] w fun e w' => e = .returned (.tuple #[]) ∧ (∃ v', Blk w' lb #[v'] 70 ∧ w'.ownsRow base 3 1 v' 2 [.int .i64 1, .int .i64 2]) ∧ Blk w' av #[.int .i64 gm.length] 3 ∧ Fr w w' (fun k => k = lb ∨ k = av ∨ v.ownBlock = some k) := by
  obtain ⟨i3, hi, hz0, hz1, hz2⟩ := info_parts info3
  have l0 := hl.cell? 0
  have l0' := hl.free 0
  obtain ⟨vg, vc, rfl, hvb, hvl⟩ := hv.form (by omega)
  obtain ⟨n1, n2⟩ := hSne
  have m1 := hl.ne hs (by decide)
  have m3 := hl.ne hav (by decide)
  have m6 := hs.ne hav (by decide)
  have hvg : ∃ cur, Blk w vg cur 3 := by
    rcases hv.2 with ⟨h0, _⟩ | ⟨g', cap', cur, h0, _, h3, _⟩
    · cases h0
    · simp at h0; obtain ⟨rfl, _⟩ := h0; exact ⟨cur, h3⟩
  obtain ⟨cur, hvgb⟩ := hvg
  have q1 := hvgb.ne hl (by decide)
  have q2 := hvgb.ne hs (by decide)
  have q3 : vg ≠ S := by intro e; apply hSv; simp [Value.ownBlock, e]
  have q4 : vg ≠ av := by intro e; apply hvav; simp [Value.ownBlock, e]
  have q5 := hvgb.neMp hg
  go_enter Yba.func9, Yba.ntmps9
  go_wp2_with (first
    | (at_builtin; refine wpList_append_lies _ rfl _ _ 70 rfl base 3 i3 _ 1 8 Yba.underlying70 hi hz0 hz1 hz2 rfl (by omega) (.slice (some ⟨vg, 0, none⟩) 1 vc) 1 [.int .i64 1] rfl (hv.alloc _) ⟨w.heap.size, 0, none⟩ 1 1 [.int .i64 2] rfl rfl (cell_one_new _ _ _) (by simp [Value.oneCell']) (by omega) (by decide) (by omega) (by simp; omega) (w.heap.size + 1) (by simp) ?_; intro g cap w1 hown1 hgrow hat hlt1; have hf1 : Fr w w1 (fun k => k = vg) := ((Fr.refl w _).alloc _).grown hgrow (by intro k e _; simp [Value.ownBlock] at e; exact e.symm); have hl1 := hl.keep hf1 (Ne.symm q1); have hs1 := hs.keep hf1 (Ne.symm q2); have hav1 := hav.keep hf1 (Ne.symm q4); have hg1 := hg.keep hf1 (Ne.symm q5); have z1 := hl1.cell? 0; have z2 := hl1.free 0; have z3 := hs1.cell? 0; have z6 := hav1.cell? 0; have z7 := hav1.free 0; have y3 := (World.cell?_of_block (hf1.block S hSl (Ne.symm q3))).trans s10; clear l0 l0' s10 hgrow hi hz0 hz1 hz2)
    | (at_len; refine wpList_mlen _ rfl _ 45 rfl (hg1.setCell (a := ⟨lb, 0, none⟩) (Ne.symm (hl1.neMp hg1)) _) Yba.underlying45 rfl ?_)
    | fail)
  go_end0
  have hgn : g ≠ lb ∧ g ≠ av := by
    have t2 := hav.lt
    have t4 := hl.lt
    rcases hat with h | h
    · simp [Value.ownBlock] at h
      subst h
      exact ⟨q1, q4⟩
    · omega
  refine ⟨rfl, ⟨.slice (some ⟨g, 0, none⟩) 2 cap, ?_, ?_⟩, ?_, ?_⟩
  · exact (hl1.set 0 _).other (a := ⟨av, 0, none⟩) m3 _
  · have h1 := ownsRow_setCell_other hown1 (a := ⟨lb, 0, none⟩) (by simp [Value.ownBlock]; omega) (.slice (some ⟨g, 0, none⟩) 2 cap)
    have h2 := ownsRow_setCell_other h1 (a := ⟨av, 0, none⟩) (by simp [Value.ownBlock]; omega) (.int .i64 gm.length)
    exact h2
  · exact (hav1.other (a := ⟨lb, 0, none⟩) (Ne.symm m3) _).set 0 _
  · exact ((hf1.mono (fun k _ e => .inr (.inr (by simp [Value.ownBlock]; exact e.symm)))).setCell (fun _ => .inl rfl) _).setCell (fun _ => .inr (.inl rfl)) _
end Go.Proofs.Ybulkuvc
