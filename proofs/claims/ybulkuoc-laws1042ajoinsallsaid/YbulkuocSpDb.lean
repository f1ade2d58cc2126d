/- spread: the lengths, by the heap. -/
import Derived.Test.YbulkuocSpBase
import Derived.Test.YbulkuocDj
namespace Go.Proofs.Ybulkuoc
open Go.RowKit

/-- What is left to do, read off the world. -/
def potV : Option Value → Nat
  | some (.int _ x) => pot x
  | _ => 0
def qlenV : Option Value → Nat
  | some (.slice _ n _) => n
  | _ => 0
def measW (gL M bq : Nat) (w : World) : Nat := 2 * ((List.range M).map (fun p => potV (w.cell? ⟨gL, p, none⟩))).sum + qlenV (w.cell? ⟨bq, 0, none⟩)
theorem measW_eq {gL M bq n c : Nat} {a : Option Addr} {w : World} {L : Nat → Int} (h : ∀ p, p < M → w.cell? ⟨gL, p, none⟩ = some (.int .i64 (L p))) (hq : w.cell? ⟨bq, 0, none⟩ = some (.slice a n c)) : measW gL M bq w = 2 * pots L M + n := by
  unfold measW pots
  rw [hq]
  have : (List.range M).map (fun p => potV (w.cell? ⟨gL, p, none⟩)) = (List.range M).map (fun p => pot (L p)) := by
    apply List.map_congr_left
    intro p hp
    rw [h p (List.mem_range.1 hp)]
    rfl
  rw [this]
  rfl

/-- The queue's state: lengths L, keys Q. -/
def QG (c : Tc) (v : Tv) (bq : Nat) (K : Nat → Option Ent) (x : Value) (w : World) : Prop := St c K v w ∧ Blk w bq #[x] 45 ∧ c.base ≤ bq ∧ ∀ k e, K k = some e → e.v.ownBlock ≠ some bq
def KL (K : Nat → Option Ent) (M gL cL : Nat) (L : Nat → Int) : Nat → Option Ent := upd K 7 ⟨3, 1, M, .slice (some ⟨gL, 0, none⟩) M cL, rowOf L M⟩
def KQ (K : Nat → Option Ent) (M gL cL : Nat) (L : Nat → Int) (Q : List Nat) (x : Value) : Nat → Option Ent := upd (KL K M gL cL L) 1015 ⟨22, 1, Q.length, x, u64s Q⟩
/-- How it stands between the rounds. -/
def DS (c : Tc) (K : Nat → Option Ent) (v : Tv) (w0 : World) (M gL cL bq : Nat) (L : Nat → Int) (Q : List Nat) (w : World) : Prop :=
  ∃ x, Below c.base w0 w ∧ c.base ≤ w.heap.size ∧ QG c v bq (KQ K M gL cL L Q x) x w

theorem KQ_7 (K : Nat → Option Ent) (M gL cL : Nat) (L : Nat → Int) (Q : List Nat) (x : Value) : KQ K M gL cL L Q x 7 = some ⟨3, 1, M, .slice (some ⟨gL, 0, none⟩) M cL, rowOf L M⟩ := by unfold KQ KL; rw [upd_other _ _ (by omega), upd_same]
theorem KQ_q (K : Nat → Option Ent) (M gL cL : Nat) (L : Nat → Int) (Q : List Nat) (x : Value) : KQ K M gL cL L Q x 1015 = some ⟨22, 1, Q.length, x, u64s Q⟩ := upd_same _ _ _
theorem KQ_o (K : Nat → Option Ent) (M gL cL : Nat) (L : Nat → Int) (Q : List Nat) (x : Value) {n : Nat} (h1 : n ≠ 7) (h2 : n ≠ 1015) : KQ K M gL cL L Q x n = K n := by unfold KQ KL; rw [upd_other _ _ h2, upd_other _ _ h1]

theorem QG.meas {c : Tc} {v : Tv} {K : Nat → Option Ent} {M gL cL bq : Nat} {L : Nat → Int} {Q : List Nat} {x : Value} {w : World} (h : QG c v bq (KQ K M gL cL L Q x) x w) : measW gL M bq w = 2 * pots L M + Q.length := by
  obtain ⟨ra, rc, hx, _⟩ := h.1.sep.shape (KQ_q K M gL cL L Q x)
  refine measW_eq (a := ra) (c := rc) (fun p hp => h.1.sep.cell (KQ_7 ..) (rowOf_get L hp)) ?_
  have := h.2.1.cell? 0
  rw [this, ← hx]
  rfl

/-- A length is stored. -/
theorem QG.put {c : Tc} {v : Tv} {K : Nat → Option Ent} {M gL cL bq : Nat} {L : Nat → Int} {Q : List Nat} {x : Value} {w : World} (h : QG c v bq (KQ K M gL cL L Q x) x w) (u : Nat) (y : Int) : QG c v bq (KQ K M gL cL (fun z => if z = u then y else L z) Q x) x (w.setCell ⟨gL, u, none⟩ (.int .i64 y)) := by
  obtain ⟨h1, h2, h3, h4⟩ := h
  have hs := h1.sep.put (KQ_7 K M gL cL L Q x) (j := u) (.int .i64 y)
  rw [rowOf_set] at hs
  have e : upd (KQ K M gL cL L Q x) 7 ⟨3, 1, M, .slice (some ⟨gL, 0, none⟩) M cL, rowOf (fun z => if z = u then y else L z) M⟩ = KQ K M gL cL (fun z => if z = u then y else L z) Q x := by
    unfold KQ KL
    rw [upd_comm _ _ _ (by omega), upd_upd]
  rw [e] at hs
  have hne : gL ≠ bq := fun e' => h4 7 _ (KQ_7 ..) (by rw [← e']; rfl)
  refine ⟨h1.grow hs ?_ (r := some gL) ⟨rfl, rfl, rfl, by simp, fun b _ hb => Below.heap_setCell _ _ _ _ (fun e => hb (by rw [e]))⟩ (fun b hb => ⟨7, _, KQ_7 .., hb⟩), h2.other (Ne.symm hne) _, h3, ?_⟩
  · rw [← e]; exact upd_ty h1.ty _ _ ty3
  · intro k e' hk
    by_cases hk7 : k = 7
    · subst hk7; rw [KQ_7] at hk; cases hk; exact h4 7 ⟨3, 1, M, .slice (some ⟨gL, 0, none⟩) M cL, rowOf L M⟩ (KQ_7 K M gL cL L Q x)
    · refine h4 k e' ?_
      by_cases hkq : k = 1015
      · subst hkq; rw [KQ_q] at hk ⊢; exact hk
      · rw [KQ_o _ _ _ _ _ _ _ hk7 hkq] at hk ⊢; exact hk
theorem QG.drewN {c : Tc} {v : Tv} {K : Nat → Option Ent} {bq : Nat} {x : Value} {w : World} (h : QG c v bq K x w) (n : Nat) : QG c v bq K x (w.drewN n) := ⟨h.1.drewN n, h.2.1, h.2.2⟩
end Go.Proofs.Ybulkuoc
