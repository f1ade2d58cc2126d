/- (*Store).commit. -/
import Derived.Test.YbulkuvcLock
namespace Go.Proofs.Ybulkuvc
open Go.RowKit Go.Maps Go.WideMaps

set_option maxRecDepth 20000 in
theorem funcNe (fn : Fn) (xs cs : Array Value) (w : World) : (binOp .neq 1 (.func fn xs cs) .nilFunc).run Yba.prog w = .ok (.bool true) w := by kernel_rfl
attribute [local go_sem] funcNe

theorem nor {P Q : Prop} (p : ¬ P) (q : ¬ Q) : ¬ (P ∨ Q) := fun e => e.elim p q

/-- The law's own variables: log, s, atApplyLive, atApplyTenants, atApplyGranted, atSettleGranted. -/
structure Vars (w : World) (S lb sv lv tv gv av : Nat) : Prop where
  hl : Blk w lb #[.slice none 0 0] 70
  hs : Blk w sv #[.pointer (some ⟨S, 0, none⟩)] 28
  hlv : Blk w lv #[.pointer none] 44
  htv : Blk w tv #[.int .i64 (-1)] 3
  hgv : Blk w gv #[.int .i64 (-1)] 3
  hav : Blk w av #[.int .i64 (-1)] 3
  n1 : tv ≠ gv
  n2 : tv ≠ av
  n3 : gv ≠ av

theorem StoL.live {w : World} {S L gb : Nat} (h : StoL w S L gb) (L' : Nat) : StoL (w.setCell ⟨S, 9, none⟩ (.pointer (some ⟨L', 0, none⟩))) S L' gb := by
  have h1 := Blk.set h 9 (.pointer (some ⟨L', 0, none⟩))
  exact h1

/-- What the law's variables hold behind commit. -/
structure Done (w : World) (S L gb base lb lv tv gv av tn gn : Nat) : Prop where
  sto : Sto w S L gb
  log : ∃ v, Blk w lb #[v] 70 ∧ w.ownsRow base 3 1 v 2 [.int .i64 1, .int .i64 2]
  hlv : Blk w lv #[.pointer (some ⟨L, 0, none⟩)] 44
  htv : Blk w tv #[.int .i64 tn] 3
  hgv : Blk w gv #[.int .i64 0] 3
  hav : Blk w av #[.int .i64 gn] 3

set_option maxRecDepth 10000 in
set_option maxHeartbeats 3200000 in
theorem commit_nil (S L gb a t na ra base lb sv lv tv gv av : Nat) (w : World) (hS : Sto w S L gb) (hT : Tab w L a t na ra) (ht : Mp w t []) (hg : Mp w gb []) (hV : Vars w S lb sv lv tv gv av) (hbase : base ≤ w.heap.size) :
    Calls Yba.prog 10 #[.pointer (some ⟨S, 0, none⟩), .agg #[.pointer none, .func (.func 8) #[] #[.pointer (some ⟨lb, 0, none⟩), .pointer (some ⟨sv, 0, none⟩), .pointer (some ⟨lv, 0, none⟩), .pointer (some ⟨tv, 0, none⟩), .pointer (some ⟨gv, 0, none⟩)], .func (.func 9) #[] #[.pointer (some ⟨lb, 0, none⟩), .pointer (some ⟨sv, 0, none⟩), .pointer (some ⟨av, 0, none⟩)]]] w fun e w' => e = .returned (.tuple #[]) ∧ Done w' S L gb base lb lv tv gv av 0 0 ∧ Fr w w' (fun k => k = S ∨ k = lb ∨ k = lv ∨ k = tv ∨ k = gv ∨ k = av) := by
  obtain ⟨hl, hs, hlv, htv, hgv, hav, n1, n2, n3⟩ := hV
  have s9 := fun A : Obj => (Blk.alloc hS A).cell? 9
  have k1 := Blk.ne hS hl (by decide)
  have k2 := Blk.ne hS hs (by decide)
  have k3 := Blk.ne hS hlv (by decide)
  have k4 := Blk.ne hS htv (by decide)
  have k5 := Blk.ne hS hgv (by decide)
  have k6 := Blk.ne hS hav (by decide)
  have k7 := Blk.ne hS hT (by decide)
  have k8 := hS.neMp ht
  have k9 := hS.neMp hg
  have kS := Blk.lt hS
  go_enter Yba.func10, Yba.ntmps10
  go_wp2_with fail
  refine Calls.mono (lock_calls S L gb _ (Blk.alloc hS _)) ?_
  rintro e w1 ⟨rfl, hS1, hf1⟩
  have hpl := (Blk.new w #[.pointer none, .func (.func 8) #[] #[.pointer (some ⟨lb, 0, none⟩), .pointer (some ⟨sv, 0, none⟩), .pointer (some ⟨lv, 0, none⟩), .pointer (some ⟨tv, 0, none⟩), .pointer (some ⟨gv, 0, none⟩)], .func (.func 9) #[] #[.pointer (some ⟨lb, 0, none⟩), .pointer (some ⟨sv, 0, none⟩), .pointer (some ⟨av, 0, none⟩)]] 74)
  have hF1 : Fr w w1 (fun k => k = S) := ((Fr.refl w (fun _ => False)).alloc _).mono (fun _ _ e => e.elim) |>.trans hf1 (fun _ _ e => e)
  have hpl1 := hpl.keep hf1 (by omega)
  have x9 := Blk.cell? hS1 9
  have x9' := Blk.free hS1 9
  have p1 := hpl1.cell? 1
  have p2 := hpl1.cell? 2
  have p3 := (hpl1.other (a := ⟨S, 9, none⟩) (by simp; omega) (.pointer (some ⟨L, 0, none⟩))).cell? 1
  go_wp2_with fail
  have hS2 := hS1.live L
  have hF2 : Fr w (w1.setCell ⟨S, 9, none⟩ (.pointer (some ⟨L, 0, none⟩))) (fun k => k = S) := Fr.setCell hF1 (fun _ => Eq.refl S) _
  refine Calls.mono (apply_calls lb sv lv tv gv S L gb a t na ra base (.pointer none) (.int .i64 (-1)) (.int .i64 (-1)) [] [] _ (hl.keep hF2 (Ne.symm k1)) (hs.keep hF2 (Ne.symm k2)) (hlv.keep hF2 (Ne.symm k3)) (htv.keep hF2 (Ne.symm k4)) (hgv.keep hF2 (Ne.symm k5)) (Blk.cell? hS2 9) (Blk.cell? hS2 10) (Blk.keep hT hF2 (Ne.symm k7)) (ht.keep hF2 (Ne.symm k8)) (hg.keep hF2 (Ne.symm k9)) ⟨k1, k3, k4, k5⟩ n1 (Blk.lt hS2) (Nat.le_trans hbase hF2.size)) ?_
  rintro e w3 ⟨rfl, ⟨v3, hl3, hv3, hvn3⟩, hlv3, htv3, hgv3, hf3⟩
  have hS3 : StoL w3 S L gb := Blk.keep hS2 hf3 (by omega)
  go_wp2_with fail
  refine Calls.mono (unlock_calls S L gb _ hS3) ?_
  rintro e w4 ⟨rfl, hS4, hf4⟩
  have hF4 : Fr w w4 (fun k => k = S ∨ k = lb ∨ k = lv ∨ k = tv ∨ k = gv) := ((hF2.mono (fun _ _ e => .inl e)).trans hf3 (fun _ _ e => .inr e)).trans hf4 (fun _ _ e => .inl e)
  have a1 := hl.lt
  have a2 := hlv.lt
  have a3 := htv.lt
  have a4 := hgv.lt
  have a5 := hav.lt
  have j1 := hs.ne hl (by decide)
  have j2 := hs.ne hlv (by decide)
  have j3 := hs.ne htv (by decide)
  have j4 := hs.ne hgv (by decide)
  have j5 := hav.ne hl (by decide)
  have j6 := hav.ne hlv (by decide)
  have hpl4 : Blk w4 w.heap.size _ 74 := ((hpl1.other (a := ⟨S, 9, none⟩) (by simp; omega) (.pointer (some ⟨L, 0, none⟩))).keep hf3 (by omega)).keep hf4 (by omega)
  have p5 := hpl4.cell? 2
  go_wp2_with fail
  have hv4 : w4.ownsRow base 3 1 v3 1 [.int .i64 1] := by
    refine hv3.kept (row := some S) ⟨hf4.os, hf4.tape, hf4.output, hf4.size, fun i hi hn => hf4.block i hi (fun e => hn (by rw [e]))⟩ (.inr ?_)
    intro e
    have h1 := hvn3 S e
    have h2 := Blk.lt hS2
    omega
  have hvw : ∀ k, v3.ownBlock = some k → w.heap.size ≤ k := fun k hk => Nat.le_trans hF2.size (hvn3 k hk)
  have j7 := hl.neMp hg
  have j8 := hlv.neMp hg
  have j9 := htv.neMp hg
  have j10 := hgv.neMp hg
  have g1 := hl3.keep hf4 (Ne.symm k1)
  have g2 := hs.keep hF4 (nor (Ne.symm k2) (nor j1 (nor j2 (nor j3 j4))))
  have g3 := hav.keep hF4 (nor (Ne.symm k6) (nor j5 (nor j6 (nor (Ne.symm n2) (Ne.symm n3)))))
  have g4 : w4.cell? ⟨S, 10, none⟩ = some (.map (some gb)) := Blk.cell? hS4 10
  have g5 := hg.keep hF4 (nor (Ne.symm k9) (nor (Ne.symm j7) (nor (Ne.symm j8) (nor (Ne.symm j9) (Ne.symm j10)))))
  have g6 := Blk.lt hS4
  have hn5 : ∀ k, k < w.heap.size → v3.ownBlock ≠ some k := fun k hk e => Nat.not_lt_of_le (hvw k e) hk
  have g9 := (Nat.le_trans hbase hF4.size)
  have g10 := settled_calls lb sv av S gb base (.int .i64 (-1)) v3 [] w4 g1 hv4 g2 g3 g4 g5 ⟨k1, k6⟩ g6 (hn5 S kS) (hn5 av a5) g9
  refine Calls.mono g10 ?_
  rintro e w5 ⟨rfl, ⟨v5, hl5, hv5⟩, hav5, hf5⟩
  go_wp2_with fail
  go_end0
  have c3 := hlv.ne hl (by decide)
  have c4 := htv.ne hl (by decide)
  have c5 := hgv.ne hl (by decide)
  refine ⟨rfl, ⟨Blk.keep hS4 hf5 (nor k1 (nor k6 (hn5 S kS))), ⟨v5, hl5, hv5⟩, (hlv3.keep hf4 (Ne.symm k3)).keep hf5 (nor c3 (nor (Ne.symm j6) (hn5 lv a2))), (htv3.keep hf4 (Ne.symm k4)).keep hf5 (nor c4 (nor n2 (hn5 tv a3))), (hgv3.keep hf4 (Ne.symm k5)).keep hf5 (nor c5 (nor n3 (hn5 gv a4))), hav5⟩, ?_⟩
  have hF4' : Fr w w4 (fun k => k = S ∨ k = lb ∨ k = lv ∨ k = tv ∨ k = gv ∨ k = av) := hF4.mono (fun k _ e => by rcases e with e | e | e | e | e <;> simp only [e, true_or, or_true])
  refine hF4'.trans hf5 (fun k hk e => ?_)
  rcases e with e | e | e
  · exact .inr (.inl e)
  · exact .inr (.inr (.inr (.inr (.inr e))))
  · exact absurd e (hn5 k hk)
end Go.Proofs.Ybulkuvc
