/- (*Store).commit of a greater draft. -/
import Derived.Test.YbulkuvcCommitIn
namespace Go.Proofs.Ybulkuvc
open Go.RowKit Go.Maps Go.WideMaps
attribute [local go_sem] funcNe

set_option maxRecDepth 10000 in
set_option maxHeartbeats 3200000 in
theorem commit_copy (D S L gb a t na ra a' t' na' ra' base base' lb sv lv tv gv av : Nat) (ed : Int) (v : Value) (m : Ents) (gs : List (List Nat)) (w : World) (hS : Sto w S L gb) (hT : Tab w L a t na ra) (ht : Mp w t []) (hg : Mp w gb []) (hna : Mp w na [])
    (hD : Dra w D S a' t' na' ra' ed v) (ha' : Mp w a' []) (hna' : Mp w na' []) (hra' : Mp w ra' []) (ht' : Mp w t' m) (hml : m.length ≤ 4) (hnow : Now w base' v gs) (hlen : gs.length ≤ 64) (hed : ¬ ed ≤ 1024)
    (htt : t ≠ t') (htg : t ≠ gb) (htn : t ≠ na) (htn' : t ≠ na') (hng : na ≠ gb) (hV : Vars w S lb sv lv tv gv av) (hbase : base ≤ w.heap.size) :
    Calls Yba.prog 10 #[.pointer (some ⟨S, 0, none⟩), .agg #[.pointer (some ⟨D, 0, none⟩), .func (.func 8) #[] #[.pointer (some ⟨lb, 0, none⟩), .pointer (some ⟨sv, 0, none⟩), .pointer (some ⟨lv, 0, none⟩), .pointer (some ⟨tv, 0, none⟩), .pointer (some ⟨gv, 0, none⟩)], .func (.func 9) #[] #[.pointer (some ⟨lb, 0, none⟩), .pointer (some ⟨sv, 0, none⟩), .pointer (some ⟨av, 0, none⟩)]]] w fun e w' => e = .returned (.tuple #[]) ∧ (∃ L' tt m', w.heap.size ≤ L' ∧ Done w' S L' gb base lb lv tv gv av m.length (nks gs) ∧ Tab w' L' a tt na ra ∧ m'.Perm m ∧ Mp w' tt m') ∧ Mp w' t [] ∧ Gnt w' gb (cnt gs) ∧ Fr w w' (theSet S lb lv tv gv av t gb) := by
  obtain ⟨hl, hs, hlv, htv, hgv, hav, n1, n2, n3⟩ := hV
  have s9 := fun A : Obj => (Blk.alloc hS A).cell? 9
  have d5 := fun A : Obj => (Blk.alloc hD A).cell? 5
  have k1 := Blk.ne hS hl (by decide)
  have k2 := Blk.ne hS hs (by decide)
  have k3 := Blk.ne hS hlv (by decide)
  have k4 := Blk.ne hS htv (by decide)
  have k5 := Blk.ne hS hgv (by decide)
  have k6 := Blk.ne hS hav (by decide)
  have k7 := Blk.ne hS hT (by decide)
  have k8 := hS.neMp ht
  have k9 := hS.neMp hg
  have kS := Blk.lt hS
  have kD := Blk.ne hS hD (by decide)
  have a1 := hl.lt
  have a2 := hlv.lt
  have a3 := htv.lt
  have a4 := hgv.lt
  have a5 := hav.lt
  have a6 := ht.lt
  have a7 := hg.lt
  have j1 := hs.ne hl (by decide)
  have j2 := hs.ne hlv (by decide)
  have j3 := hs.ne htv (by decide)
  have j4 := hs.ne hgv (by decide)
  have j5 := hav.ne hl (by decide)
  have j6 := hav.ne hlv (by decide)
  have j7 := hl.neMp hg
  have j8 := hlv.neMp hg
  have j9 := htv.neMp hg
  have j10 := hgv.neMp hg
  have i1 := hl.neMp ht
  have i2 := hs.neMp ht
  have i3 := hlv.neMp ht
  have i4 := htv.neMp ht
  have i5 := hgv.neMp ht
  have i6 := hav.neMp ht
  have i7 := hs.neMp hg
  have i8 := hav.neMp hg
  have b1 := hl.neMp hna
  have b2 := hlv.neMp hna
  have b3 := htv.neMp hna
  have b4 := hgv.neMp hna
  have b5 := hS.neMp hna
  have b1' := hl.neMp hna'
  have b2' := hlv.neMp hna'
  have b3' := htv.neMp hna'
  have b4' := hgv.neMp hna'
  have b5' := hS.neMp hna'
  have s9' := Blk.lt hT
  have dL := Blk.lt hD
  have e1 := hna.lt
  have e2 := hna'.lt
  have e3 := hs.lt
  have e4 := ht'.lt
  have dD := hD.neMp ht
  have dG := hD.neMp hg
  have d1 := Blk.ne hD hl (by decide)
  have d2 := Blk.ne hD hlv (by decide)
  have d3 := Blk.ne hD htv (by decide)
  have d4 := Blk.ne hD hgv (by decide)
  have t1 := Blk.ne hT hl (by decide)
  have t2 := Blk.ne hT hlv (by decide)
  have t3 := Blk.ne hT htv (by decide)
  have t4 := Blk.ne hT hgv (by decide)
  have t5 := hT.neMp ht
  have c3 := hlv.ne hl (by decide)
  have c4 := htv.ne hl (by decide)
  have c5 := hgv.ne hl (by decide)
  have z1 := hS.neMp ha'
  have z2 := hS.neMp hra'
  have z3 := hS.neMp ht'
  have hN : ∀ g cs ty, ty = 55 ∨ ty = 58 → Blk w g cs ty → ¬ theSet S lb lv tv gv av t gb g := fun g cs ty hty hb => by
    have q : ∀ x : TypeId, x ≠ 55 → x ≠ 58 → ty ≠ x := by rintro x h1 h2 rfl; exact hty.elim h1 h2
    exact nor (hb.ne hS (q 47 (by decide) (by decide))) (nor (hb.ne hl (q 70 (by decide) (by decide))) (nor (hb.ne hlv (q 44 (by decide) (by decide))) (nor (hb.ne htv (q 3 (by decide) (by decide))) (nor (hb.ne hgv (q 3 (by decide) (by decide))) (nor (hb.ne hav (q 3 (by decide) (by decide))) (nor (hb.neMp ht) (hb.neMp hg)))))))
  go_enter Yba.func10, Yba.ntmps10
  go_wp2_with fail
  have hpl := (Blk.new w #[.pointer (some ⟨D, 0, none⟩), .func (.func 8) #[] #[.pointer (some ⟨lb, 0, none⟩), .pointer (some ⟨sv, 0, none⟩), .pointer (some ⟨lv, 0, none⟩), .pointer (some ⟨tv, 0, none⟩), .pointer (some ⟨gv, 0, none⟩)], .func (.func 9) #[] #[.pointer (some ⟨lb, 0, none⟩), .pointer (some ⟨sv, 0, none⟩), .pointer (some ⟨av, 0, none⟩)]] 74)
  have hF0 : Fr w (w.alloc (.cells #[.pointer (some ⟨D, 0, none⟩), .func (.func 8) #[] #[.pointer (some ⟨lb, 0, none⟩), .pointer (some ⟨sv, 0, none⟩), .pointer (some ⟨lv, 0, none⟩), .pointer (some ⟨tv, 0, none⟩), .pointer (some ⟨gv, 0, none⟩)], .func (.func 9) #[] #[.pointer (some ⟨lb, 0, none⟩), .pointer (some ⟨sv, 0, none⟩), .pointer (some ⟨av, 0, none⟩)]] 74)) (fun _ => False) := (Fr.refl w _).alloc _
  have u0 := cloneFor_calls D S L a t na ra a' t' na' ra' ed v m (w.alloc (.cells #[.pointer (some ⟨D, 0, none⟩), .func (.func 8) #[] #[.pointer (some ⟨lb, 0, none⟩), .pointer (some ⟨sv, 0, none⟩), .pointer (some ⟨lv, 0, none⟩), .pointer (some ⟨tv, 0, none⟩), .pointer (some ⟨gv, 0, none⟩)], .func (.func 9) #[] #[.pointer (some ⟨lb, 0, none⟩), .pointer (some ⟨sv, 0, none⟩), .pointer (some ⟨av, 0, none⟩)]] 74)) (Blk.alloc hD _) (ha'.alloc _) (ht'.alloc _) (Blk.alloc hT _) (ht.alloc _) hml
  have hsz : (w.alloc (.cells #[.pointer (some ⟨D, 0, none⟩), .func (.func 8) #[] #[.pointer (some ⟨lb, 0, none⟩), .pointer (some ⟨sv, 0, none⟩), .pointer (some ⟨lv, 0, none⟩), .pointer (some ⟨tv, 0, none⟩), .pointer (some ⟨gv, 0, none⟩)], .func (.func 9) #[] #[.pointer (some ⟨lb, 0, none⟩), .pointer (some ⟨sv, 0, none⟩), .pointer (some ⟨av, 0, none⟩)]] 74)).heap.size = w.heap.size + 1 := by simp
  rw [hsz] at u0
  clear hsz
  generalize (w.alloc (.cells #[.pointer (some ⟨D, 0, none⟩), .func (.func 8) #[] #[.pointer (some ⟨lb, 0, none⟩), .pointer (some ⟨sv, 0, none⟩), .pointer (some ⟨lv, 0, none⟩), .pointer (some ⟨tv, 0, none⟩), .pointer (some ⟨gv, 0, none⟩)], .func (.func 9) #[] #[.pointer (some ⟨lb, 0, none⟩), .pointer (some ⟨sv, 0, none⟩), .pointer (some ⟨av, 0, none⟩)]] 74)) = w0 at hpl hF0 u0 ⊢
  generalize hL1' : w.heap.size + 1 = L1 at u0
  clear s9 d5
  refine Calls.mono u0 ?_
  rintro e w1 ⟨tt, rfl, hT1, htt1, hcase, hf1⟩
  have hF1 : Fr w w1 (fun _ => False) := hF0.trans hf1 (fun _ _ e => e)
  have hpl1 := hpl.keep hf1 id
  have hne : ∀ x, x < w.heap.size → x ≠ t → x ≠ tt := by
    intro x hx hxt
    rcases hcase with ⟨h, _⟩ | h
    · rw [h]; exact hxt
    · omega
  have hpt : w.heap.size ≠ tt := by
    rcases hcase with ⟨h, _⟩ | h
    · rw [h]; exact Nat.ne_of_gt a6
    · omega
  have hLt : L1 ≠ tt := Blk.neMp hT1 htt1
  have hLx : ∀ x, x < w.heap.size → L1 ≠ x := fun x hx => by omega
  go_wp2_with fail
  have u1 := edit_calls D S L1 a tt na ra a' t' na' ra' ed v m w1 (Blk.keep hD hF1 id) (ha'.keep hF1 id) (hna'.keep hF1 id) (hra'.keep hF1 id) (ht'.keep hF1 id) hT1 htt1 (Ne.symm (hne t' e4 (Ne.symm htt))) hml
  refine Calls.mono u1 ?_
  rintro e w2 ⟨rfl, ⟨m', hpm, hm'⟩, hf2⟩
  have hF2 : Fr w w2 (fun k => k = tt) := (hF1.mono (fun _ _ e => e.elim)).trans hf2 (fun _ _ e => e)
  have hT2 : Tab w2 L1 a tt na ra := Blk.keep hT1 hf2 hLt
  have hpl2 := hpl1.keep hf2 hpt
  have hS2 : Sto w2 S L gb := Blk.keep hS hF2 (hne S kS k8)
  have hold2 : Mp w2 t [] := by
    rcases hcase with ⟨h, h0⟩ | h
    · subst h
      subst h0
      rw [List.perm_nil.1 hpm] at hm'
      exact hm'
    · exact ht.keep hF2 (by omega)
  go_wp2_with fail
  refine Calls.mono (lock_calls S L gb _ hS2) ?_
  rintro e w2a ⟨rfl, hS2a, hf2a⟩
  have hF2a : Fr w w2a (fun k => k = S ∨ k = tt) := (hF2.mono (fun _ _ e => .inr e)).trans hf2a (fun _ _ e => .inl e)
  have hpl2a := hpl2.keep hf2a (Nat.ne_of_gt kS)
  have x9 := Blk.cell? hS2a 9
  have x9' := Blk.free hS2a 9
  have p1 := hpl2a.cell? 1
  have p2 := hpl2a.cell? 2
  have hpl3 := (hpl2a.other (a := ⟨S, 9, none⟩) (Nat.ne_of_gt kS) (.pointer (some ⟨L1, 0, none⟩)))
  have p3 := hpl3.cell? 1
  have hma : Mp w2a tt m' := hm'.keep hf2a (Ne.symm (hne S kS k8))
  have hTa : Tab w2a L1 a tt na ra := Blk.keep hT2 hf2a (hLx S kS)
  go_wp2_with fail
  have hS3 := hS2a.live L1
  have hF3 : Fr w (w2a.setCell ⟨S, 9, none⟩ (.pointer (some ⟨L1, 0, none⟩))) (fun k => k = S ∨ k = tt) := Fr.setCell hF2a (fun _ => Or.inl (Eq.refl S)) _
  have hf23 : Fr w2a (w2a.setCell ⟨S, 9, none⟩ (.pointer (some ⟨L1, 0, none⟩))) (fun k => k = S) := Fr.setCell (Fr.refl w2a _) (fun _ => Eq.refl S) _
  have hm3 : Mp (w2a.setCell ⟨S, 9, none⟩ (.pointer (some ⟨L1, 0, none⟩))) tt m' := hma.keep hf23 (Ne.symm (hne S kS k8))
  have hT3 : Tab (w2a.setCell ⟨S, 9, none⟩ (.pointer (some ⟨L1, 0, none⟩))) L1 a tt na ra := Blk.keep hTa hf23 (hLx S kS)
  have u9 : (w2a.setCell ⟨S, 9, none⟩ (.pointer (some ⟨L1, 0, none⟩))).cell? ⟨S, 9, none⟩ = some (.pointer (some ⟨L1, 0, none⟩)) := Blk.cell? hS3 9
  have u10 : (w2a.setCell ⟨S, 9, none⟩ (.pointer (some ⟨L1, 0, none⟩))).cell? ⟨S, 10, none⟩ = some (.map (some gb)) := Blk.cell? hS3 10
  have hgt := hne gb a7 (Ne.symm htg)
  have u1 := apply_calls lb sv lv tv gv S L1 gb a tt na ra base (.pointer none) (.int .i64 (-1)) (.int .i64 (-1)) m' [] _ (hl.keep hF3 (nor (Ne.symm k1) (hne lb a1 i1))) (hs.keep hF3 (nor (Ne.symm k2) (hne sv e3 i2))) (hlv.keep hF3 (nor (Ne.symm k3) (hne lv a2 i3))) (htv.keep hF3 (nor (Ne.symm k4) (hne tv a3 i4))) (hgv.keep hF3 (nor (Ne.symm k5) (hne gv a4 i5))) u9 u10 hT3 hm3 (hg.keep hF3 (nor (Ne.symm k9) hgt)) ⟨k1, k3, k4, k5⟩ n1 (Blk.lt hS3) (Nat.le_trans hbase hF3.size)
  refine Calls.mono u1 ?_
  rintro e w3 ⟨rfl, ⟨v3, hl3, hv3, hvn3⟩, hlv3, htv3, hgv3, hf3⟩
  have hS3' : StoL w3 S L1 gb := Blk.keep hS3 hf3 (nor k1 (nor k3 (nor k4 k5)))
  have hpl4 := hpl3.keep hf3 (nor (Nat.ne_of_gt a1) (nor (Nat.ne_of_gt a2) (nor (Nat.ne_of_gt a3) (Nat.ne_of_gt a4))))
  have hT3' : Tab w3 L1 a tt na ra := Blk.keep hT3 hf3 (nor (hLx lb a1) (nor (hLx lv a2) (nor (hLx tv a3) (hLx gv a4))))
  go_wp2_with fail
  refine Calls.mono (unlock_calls S L1 gb _ hS3') ?_
  rintro e w4 ⟨rfl, hS4, hf4⟩
  have hF4 : Fr w w4 (fun k => k = S ∨ k = lb ∨ k = lv ∨ k = tv ∨ k = gv ∨ k = tt) := ((hF3.mono (fun _ _ e => e.elim .inl (fun e => .inr (.inr (.inr (.inr (.inr e))))))).trans hf3 (fun _ _ e => by rcases e with e | e | e | e <;> simp only [e, true_or, or_true])).trans hf4 (fun _ _ e => .inl e)
  have hpl5 := hpl4.keep hf4 (Nat.ne_of_gt kS)
  have hg4 := hg.keep hF4 (nor (Ne.symm k9) (nor (Ne.symm j7) (nor (Ne.symm j8) (nor (Ne.symm j9) (nor (Ne.symm j10) hgt)))))
  have hin : ∀ k, k < w.heap.size → k = tt → k = t := fun k hk e => Decidable.byContradiction fun h => hne k hk h e
  have hF4' : Fr w w4 (theSet S lb lv tv gv av t gb) := hF4.mono (fun k hk e => by rcases e with e | e | e | e | e | e <;> (try have e := hin k hk e) <;> simp only [theSet, e, true_or, or_true])
  have hD4 : Dra w4 D S a' t' na' ra' ed v := Blk.keep hD hF4 (nor (Ne.symm kD) (nor d1 (nor d2 (nor d3 (nor d4 (hne D dL dD))))))
  have hT4 : Tab w4 L1 a tt na ra := Blk.keep hT3' hf4 (hLx S kS)
  have u2 := settle_calls D S L1 gb a tt na ra a' t' na' ra' base' ed v gs w4 hD4 (hna'.keep hF4 (nor (Ne.symm b5') (nor (Ne.symm b1') (nor (Ne.symm b2') (nor (Ne.symm b3') (nor (Ne.symm b4') (hne na' e2 (Ne.symm htn')))))))) hS4 hT4 (hna.keep hF4 (nor (Ne.symm b5) (nor (Ne.symm b1) (nor (Ne.symm b2) (nor (Ne.symm b3) (nor (Ne.symm b4) (hne na e1 (Ne.symm htn)))))))) (hnow.keep hF4' hN) (Gnt.zero hg4) hlen hng
  go_wp2_with fail
  refine Calls.mono u2 ?_
  rintro e w5 ⟨rfl, hG5, hf5⟩
  have hS5 : Sto w5 S L1 gb := Blk.keep hS4 hf5 k9
  have hT5 : Tab w5 L1 a tt na ra := Blk.keep hT4 hf5 (hLx gb a7)
  have hpl6 := hpl5.keep hf5 (Nat.ne_of_gt a7)
  have p6 := hpl6.cell? 2
  obtain ⟨gm, hgm, hgml⟩ := hG5.len
  go_wp2_with fail
  have hv4 : w4.ownsRow base 3 1 v3 1 [.int .i64 1] := by
    refine hv3.kept (row := some S) ⟨hf4.os, hf4.tape, hf4.output, hf4.size, fun i hi hn => hf4.block i hi (fun e => hn (by rw [e]))⟩ (.inr ?_)
    intro e
    have h1 := hvn3 S e
    have h2 := Blk.lt hS3
    omega
  have hvw : ∀ k, v3.ownBlock = some k → w2a.heap.size ≤ k := fun k hk => by have := hvn3 k hk; simpa using this
  have hn5' : ∀ k, k < w2a.heap.size → v3.ownBlock ≠ some k := fun k hk e => Nat.not_lt_of_le (hvw k e) hk
  have hn5 : ∀ k, k < w.heap.size → v3.ownBlock ≠ some k := fun k hk => hn5' k (Nat.lt_of_lt_of_le hk hF2a.size)
  have hv5 : w5.ownsRow base 3 1 v3 1 [.int .i64 1] := by
    refine hv4.kept (row := some gb) ⟨hf5.os, hf5.tape, hf5.output, hf5.size, fun i hi hn => hf5.block i hi (fun e => hn (by rw [e]))⟩ (.inr ?_)
    exact fun e => hn5 gb a7 e
  have hF5 : Fr w w5 (theSet S lb lv tv gv av t gb) := hF4'.trans hf5 (fun k _ e => .inr (.inr (.inr (.inr (.inr (.inr (.inr e)))))))
  have hF5s : Fr w w5 (fun k => (k = S ∨ k = lb ∨ k = lv ∨ k = tv ∨ k = gv ∨ k = tt) ∨ k = gb) := (hF4.mono (fun k _ e => .inl e)).trans hf5 (fun k _ e => .inr e)
  have g1 := (hl3.keep hf4 (Ne.symm k1)).keep hf5 j7
  have g2 := hs.keep hF5s (nor (nor (Ne.symm k2) (nor j1 (nor j2 (nor j3 (nor j4 (hne sv e3 i2)))))) i7)
  have g3 := hav.keep hF5s (nor (nor (Ne.symm k6) (nor j5 (nor j6 (nor (Ne.symm n2) (nor (Ne.symm n3) (hne av a5 i6)))))) i8)
  have g4 : w5.cell? ⟨S, 10, none⟩ = some (.map (some gb)) := Blk.cell? hS5 10
  have g6 := Blk.lt hS5
  have g9 := (Nat.le_trans hbase hF5.size)
  have g10 := settled_calls lb sv av S gb base (.int .i64 (-1)) v3 gm w5 g1 hv5 g2 g3 g4 hgm ⟨k1, k6⟩ g6 (hn5 S kS) (hn5 av a5) g9
  refine Calls.mono g10 ?_
  rintro e w6 ⟨rfl, ⟨v6, hl6, hv6⟩, hav6, hf6⟩
  go_wp2_with fail
  go_end0
  have hml' := hpm.length_eq
  rw [hml'] at htv3
  rw [hgml] at hav6
  have o1 := hne lb a1 i1
  have o2 := hne lv a2 i3
  have o3 := hne tv a3 i4
  have o4 := hne gv a4 i5
  have o5 := hne av a5 i6
  have o6 := hne S kS k8
  have hm5 : Mp w5 tt m' := ((hm3.keep hf3 (nor (Ne.symm o1) (nor (Ne.symm o2) (nor (Ne.symm o3) (Ne.symm o4))))).keep hf4 (Ne.symm o6)).keep hf5 (Ne.symm hgt)
  have hold5 : Mp w5 t [] := ((((hold2.keep hf2a (Ne.symm k8)).keep hf23 (Ne.symm k8)).keep hf3 (nor (Ne.symm i1) (nor (Ne.symm i3) (nor (Ne.symm i4) (Ne.symm i5))))).keep hf4 (Ne.symm k8)).keep hf5 htg
  refine ⟨rfl, ⟨L1, tt, m', by omega, ⟨Blk.keep hS5 hf6 (nor k1 (nor k6 (hn5 S kS))), ⟨v6, hl6, hv6⟩, ((hlv3.keep hf4 (Ne.symm k3)).keep hf5 j8).keep hf6 (nor c3 (nor (Ne.symm j6) (hn5 lv a2))), ((htv3.keep hf4 (Ne.symm k4)).keep hf5 j9).keep hf6 (nor c4 (nor n2 (hn5 tv a3))), ((hgv3.keep hf4 (Ne.symm k5)).keep hf5 j10).keep hf6 (nor c5 (nor n3 (hn5 gv a4))), hav6⟩, Blk.keep hT5 hf6 (nor (hLx lb a1) (nor (hLx av a5) (hn5' L1 (Blk.lt hTa)))), hpm, hm5.keep hf6 (nor (Ne.symm o1) (nor (Ne.symm o5) (hn5' tt hma.lt)))⟩, hold5.keep hf6 (nor (Ne.symm i1) (nor (Ne.symm i6) (hn5 t a6))), hG5.keep hf6 (nor (Ne.symm j7) (nor (Ne.symm i8) (hn5 gb a7))), ?_⟩
  refine hF5.trans hf6 (fun k hk e => ?_)
  rcases e with e | e | e
  · exact .inr (.inl e)
  · exact .inr (.inr (.inr (.inr (.inr (.inl e)))))
  · exact absurd e (hn5 k hk)
end Go.Proofs.Ybulkuvc
