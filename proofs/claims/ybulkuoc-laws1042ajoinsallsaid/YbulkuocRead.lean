/- (*through).read. -/
import Derived.Test.YbulkuocCatch
namespace Go.Proofs.Ybulkuoc
open Go.RowKit

theorem at_new {x : Value} {n : Nat} (h : x.ownBlock = (Value.slice none 0 0).ownBlock ∨ x.ownBlock = some n) : ∀ b, x.ownBlock = some b → n ≤ b := by
  intro b hb
  rcases h with e | e
  · rw [e] at hb; cases hb
  · rw [e] at hb; cases hb; exact Nat.le_refl _
/-- A row has turned, or a new one has come. -/
theorem St.grow {c : Tc} {K K' : Nat → Option Ent} {v : Tv} {w w' : World} {r : Option Nat} (h : St c K v w) (hs : Sep w' c.base K') (hty : ∀ k e, K' k = some e → TyOk e.t) (hg : w.grownBy w' r) (hr : ∀ b, r = some b → ∃ k e, K k = some e ∧ e.v.ownBlock = some b) : St c K' v w' := by
  have key : ∀ b cs t, (∀ t', TyOk t' → t' ≠ t) → Blk w b cs t → Blk w' b cs t := by
    intro b cs t ht hb
    refine (hg.block b hb.lt ?_).trans hb
    intro e
    obtain ⟨k, y, hk, ho⟩ := hr b e.symm
    exact h.sep.neTy hb hk (ht _ (h.ty k y hk)) ho
  exact ⟨hs, key _ _ 43 (fun _ h => h.1) h.hC, key _ _ 49 (fun _ h => h.2.2.1) h.hBT, key _ _ 47 (fun _ h => h.2.1) h.hTT, key _ _ 23 (fun _ h => h.2.2.2) h.ha, key _ _ 23 (fun _ h => h.2.2.2) h.hp, hty, h.lo⟩
theorem St.work {c : Tc} {K : Nat → Option Ent} {v : Tv} {w : World} (h : St c K v w) (x : Int) : St c K { v with work := x } (w.setCell ⟨c.C, 30, none⟩ (.int .i64 x)) := h.setC 30 _ rfl rfl rfl rfl rfl rfl rfl

theorem read_after {c : Tc} {K : Nat → Option Ent} {v : Tv} {w w2 : World} {x : Value} {l : List Nat} {work k : Nat} (h : St c K v w) (hw : v.work = work) (ho2 : w2.ownsRow c.base 3 1 x (0 + l.length) ([] ++ ints l)) (hg2 : w.grownBy w2 (Value.slice none 0 0).ownBlock) (hat2 : x.ownBlock = (Value.slice none 0 0).ownBlock ∨ x.ownBlock = some w.heap.size) :
    St c (upd K k ⟨3, 1, l.length, x, ints l⟩) v w2 ∧ w2.cell? ⟨c.C, 30, none⟩ = some (.int .i64 (work : Int)) ∧ w2.frozen? ⟨c.C, 30, none⟩ = false := by
  have hs2 : Sep w2 c.base (upd K k ⟨3, 1, l.length, x, ints l⟩) := h.sep.add (by simpa using ho2) hg2 (at_new hat2)
  have h2 := h.grow hs2 (upd_ty h.ty _ _ ty3) hg2 (fun b hb' => by cases hb')
  refine ⟨h2, ?_, h2.hC.free 30⟩
  rw [← hw]
  exact h2.hC.cell? 30

set_option maxRecDepth 20000 in
set_option maxHeartbeats 3200000 in
theorem succ_calls (c : Tc) (K : Nat → Option Ent) (v : Tv) (w : World) (h : St c K v w) (g ca u : Nat) (i : Int) (r : Value) (hva : c.va = .slice (some ⟨g, 0, none⟩) c.N ca) (hu : u < c.N) (hr : w.cell? ⟨g, u, none⟩ = some r) :
    Calls Yba.prog 20 #[.int .i64 (u : Nat), .int .i64 i, .pointer (some ⟨c.pa, 0, none⟩)] w fun e w' => e = .returned (.tuple #[r, .bool false]) ∧ w' = w := by
  have c0 : w.cell? ⟨c.pa, 0, none⟩ = some c.va := h.ha.cell? 0
  rw [hva] at c0
  have hu' : (u : Int) < (c.N : Int) := by omega
  go_enter Yba.func20, Yba.ntmps20
  go_wp2_with fail
  refine bodyPost_ret (v := .tuple #[r, .bool false]) (by simp [results, Yba.results20, go_sem]) rfl ⟨rfl, rfl⟩
set_option maxRecDepth 20000 in
set_option maxHeartbeats 3200000 in
theorem pred_fn_calls (c : Tc) (K : Nat → Option Ent) (v : Tv) (w : World) (h : St c K v w) (g ca u : Nat) (i : Int) (r : Value) (hva : c.vp = .slice (some ⟨g, 0, none⟩) c.N ca) (hu : u < c.N) (hr : w.cell? ⟨g, u, none⟩ = some r) :
    Calls Yba.prog 21 #[.int .i64 (u : Nat), .int .i64 i, .pointer (some ⟨c.pb, 0, none⟩)] w fun e w' => e = .returned (.tuple #[r, .bool false]) ∧ w' = w := by
  have c0 : w.cell? ⟨c.pb, 0, none⟩ = some c.vp := h.hp.cell? 0
  rw [hva] at c0
  have hu' : (u : Int) < (c.N : Int) := by omega
  go_enter Yba.func21, Yba.ntmps21
  go_wp2_with fail
  refine bodyPost_ret (v := .tuple #[r, .bool false]) (by simp [results, Yba.results21, go_sem]) rfl ⟨rfl, rfl⟩


set_option maxRecDepth 20000 in
set_option maxHeartbeats 3200000 in
/-- read of the one run l that next gives. -/
theorem readS_calls (c : Tc) (K : Nat → Option Ent) (v : Tv) (w : World) (h : St c K v w) (hb : c.base ≤ w.heap.size) (u k kr : Nat) (l : List Nat) (row : Value) (work : Nat) (hw : v.work = work) (hwb : work ≤ 10000) (hl : l.length ≤ 8) (hkr : K kr = some ⟨3, 1, l.length, row, ints l⟩)
    (hcl : Calls Yba.prog 20 #[.int .i64 (u : Nat), .int .i64 0, .pointer (some ⟨c.pa, 0, none⟩)] w fun e w' => e = .returned (.tuple #[row, .bool false]) ∧ w' = w) :
    Calls Yba.prog 24 #[.pointer (some ⟨c.C, 0, none⟩), .func (.func 20) #[] #[.pointer (some ⟨c.pa, 0, none⟩)], .int .i64 (u : Nat)] w fun e w' => ∃ x, e = .returned x ∧ Below c.base w w' ∧ St c (upd K k ⟨3, 1, l.length, x, ints l⟩) { v with work := ((work + 1 + l.length : Nat) : Int) } w' := by
  obtain ⟨ra, rc, rfl, hra⟩ := h.sep.shape hkr
  obtain ⟨i3, hi, hz0, hz1, hz2⟩ := info_parts info3
  have c30 : w.cell? ⟨c.C, 30, none⟩ = some (.int .i64 (work : Int)) := by rw [← hw]; exact h.hC.cell? 30
  have f30 := h.hC.free 30
  go_enter Yba.func24, Yba.ntmps24
  go_wp2_with fail
  go_loopw [7, 8, 9] (fun al iv m wr => (al = .slice none 0 0 ∧ iv = .int .i64 0 ∧ m = .bool true ∧ wr = w) ∨ (iv = .int .i64 1 ∧ m = .bool false ∧ Below c.base w wr ∧ St c (upd K k ⟨3, 1, l.length, al, ints l⟩) { v with work := ((work + 1 + l.length : Nat) : Int) } wr)) (fun _ iv _ _ => 1 - (intOf iv).toNat)
  case atStart => exact .inl ⟨rfl, rfl, rfl, rfl⟩
  case round =>
    rcases hrel with ⟨rfl, rfl, rfl, hw1⟩ | ⟨rfl, rfl, hbl, hst⟩
    · replace hw1 := hw1.symm
      subst hw1
      cases ra with
      | none =>
        have hl0 : l = [] := by
          cases l with
          | nil => rfl
          | cons x l => obtain ⟨g, hg⟩ := hra (by simp); cases hg
        subst hl0
        go_wp2_with fail
        refine Calls.mono hcl ?_
        rintro e w1 ⟨rfl, rfl⟩
        go_wp2_with fail
        refine ⟨.inr ⟨rfl, rfl, (Below.refl _ _).setCell h.lo.1 _, ?_⟩, by simp [intOf]⟩
        have h2 : St c (upd K k ⟨3, 1, 0, .slice none 0 0, []⟩) v w1 := h.grow (h.sep.nils 3 k) (upd_ty h.ty _ _ ty3) (r := none) ⟨rfl, rfl, rfl, Nat.le_refl _, fun _ _ _ => rfl⟩ (fun b e => by cases e)
        exact h2.work ((work : Int) + 1)
      | some a =>
        have hnews : ∀ j x, (ints l)[j]? = some x → w.cell? (a.add j) = some x := by
          intro j x hx
          have hlt : 0 < l.length := by
            have := (List.getElem?_eq_some_iff.1 hx).1
            rw [ints_length] at this
            omega
          obtain ⟨g, hg⟩ := hra hlt
          cases hg
          have := h.sep.cell hkr hx
          rw [show ((⟨g, 0, none⟩ : Addr).add j) = ⟨g, 0 + j, none⟩ from by simp [Addr.add]; exact fun h => h.symm, Nat.zero_add]
          exact this
        have hone : ∀ x ∈ ints l, x.oneCell' = true := by
          intro x hx
          obtain ⟨y, _, rfl⟩ := List.mem_map.1 hx
          rfl
        go_wp2_with fail
        refine Calls.mono hcl ?_
        rintro e w1 ⟨rfl, rfl⟩
        go_wp2_with (first
          | (at_builtin; refine wpList_append_own_at _ rfl _ _ 26 rfl c.base 3 i3 _ 1 8 Yba.underlying26 hi hz0 hz1 hz2 rfl (by omega) (.slice none 0 0) 0 [] rfl (World.ownsRow_nil _ _ 3 1) a l.length rc (ints l) rfl (by simp [ints_length]) hnews hone (by unfold maxLen; omega) (by omega) hb ?_; intro x w2 ho2 hg2 _ hat2; obtain ⟨h2, d30, g30⟩ := read_after (k := k) h hw ho2 hg2 hat2)
          | fail)
        refine ⟨.inr ⟨rfl, rfl, ((Below.refl _ _).grown hg2 hb (fun b e => by cases e)).setCell h.lo.1 _, ?_⟩, by simp [intOf]⟩
        have e : ((work + 1 + l.length : Nat) : Int) = (work : Int) + (1 + (l.length : Int)) := by omega
        rw [e]
        exact h2.work _
    · go_wp2_with fail
      go_ret
      exact ⟨_, rfl, hbl, hst⟩
set_option maxRecDepth 20000 in
set_option maxHeartbeats 3200000 in
/-- read of the one run l that next gives. -/
theorem readP_calls (c : Tc) (K : Nat → Option Ent) (v : Tv) (w : World) (h : St c K v w) (hb : c.base ≤ w.heap.size) (u k kr : Nat) (l : List Nat) (row : Value) (work : Nat) (hw : v.work = work) (hwb : work ≤ 10000) (hl : l.length ≤ 8) (hkr : K kr = some ⟨3, 1, l.length, row, ints l⟩)
    (hcl : Calls Yba.prog 21 #[.int .i64 (u : Nat), .int .i64 0, .pointer (some ⟨c.pb, 0, none⟩)] w fun e w' => e = .returned (.tuple #[row, .bool false]) ∧ w' = w) :
    Calls Yba.prog 24 #[.pointer (some ⟨c.C, 0, none⟩), .func (.func 21) #[] #[.pointer (some ⟨c.pb, 0, none⟩)], .int .i64 (u : Nat)] w fun e w' => ∃ x, e = .returned x ∧ Below c.base w w' ∧ St c (upd K k ⟨3, 1, l.length, x, ints l⟩) { v with work := ((work + 1 + l.length : Nat) : Int) } w' := by
  obtain ⟨ra, rc, rfl, hra⟩ := h.sep.shape hkr
  obtain ⟨i3, hi, hz0, hz1, hz2⟩ := info_parts info3
  have c30 : w.cell? ⟨c.C, 30, none⟩ = some (.int .i64 (work : Int)) := by rw [← hw]; exact h.hC.cell? 30
  have f30 := h.hC.free 30
  go_enter Yba.func24, Yba.ntmps24
  go_wp2_with fail
  go_loopw [7, 8, 9] (fun al iv m wr => (al = .slice none 0 0 ∧ iv = .int .i64 0 ∧ m = .bool true ∧ wr = w) ∨ (iv = .int .i64 1 ∧ m = .bool false ∧ Below c.base w wr ∧ St c (upd K k ⟨3, 1, l.length, al, ints l⟩) { v with work := ((work + 1 + l.length : Nat) : Int) } wr)) (fun _ iv _ _ => 1 - (intOf iv).toNat)
  case atStart => exact .inl ⟨rfl, rfl, rfl, rfl⟩
  case round =>
    rcases hrel with ⟨rfl, rfl, rfl, hw1⟩ | ⟨rfl, rfl, hbl, hst⟩
    · replace hw1 := hw1.symm
      subst hw1
      cases ra with
      | none =>
        have hl0 : l = [] := by
          cases l with
          | nil => rfl
          | cons x l => obtain ⟨g, hg⟩ := hra (by simp); cases hg
        subst hl0
        go_wp2_with fail
        refine Calls.mono hcl ?_
        rintro e w1 ⟨rfl, rfl⟩
        go_wp2_with fail
        refine ⟨.inr ⟨rfl, rfl, (Below.refl _ _).setCell h.lo.1 _, ?_⟩, by simp [intOf]⟩
        have h2 : St c (upd K k ⟨3, 1, 0, .slice none 0 0, []⟩) v w1 := h.grow (h.sep.nils 3 k) (upd_ty h.ty _ _ ty3) (r := none) ⟨rfl, rfl, rfl, Nat.le_refl _, fun _ _ _ => rfl⟩ (fun b e => by cases e)
        exact h2.work ((work : Int) + 1)
      | some a =>
        have hnews : ∀ j x, (ints l)[j]? = some x → w.cell? (a.add j) = some x := by
          intro j x hx
          have hlt : 0 < l.length := by
            have := (List.getElem?_eq_some_iff.1 hx).1
            rw [ints_length] at this
            omega
          obtain ⟨g, hg⟩ := hra hlt
          cases hg
          have := h.sep.cell hkr hx
          rw [show ((⟨g, 0, none⟩ : Addr).add j) = ⟨g, 0 + j, none⟩ from by simp [Addr.add]; exact fun h => h.symm, Nat.zero_add]
          exact this
        have hone : ∀ x ∈ ints l, x.oneCell' = true := by
          intro x hx
          obtain ⟨y, _, rfl⟩ := List.mem_map.1 hx
          rfl
        go_wp2_with fail
        refine Calls.mono hcl ?_
        rintro e w1 ⟨rfl, rfl⟩
        go_wp2_with (first
          | (at_builtin; refine wpList_append_own_at _ rfl _ _ 26 rfl c.base 3 i3 _ 1 8 Yba.underlying26 hi hz0 hz1 hz2 rfl (by omega) (.slice none 0 0) 0 [] rfl (World.ownsRow_nil _ _ 3 1) a l.length rc (ints l) rfl (by simp [ints_length]) hnews hone (by unfold maxLen; omega) (by omega) hb ?_; intro x w2 ho2 hg2 _ hat2; obtain ⟨h2, d30, g30⟩ := read_after (k := k) h hw ho2 hg2 hat2)
          | fail)
        refine ⟨.inr ⟨rfl, rfl, ((Below.refl _ _).grown hg2 hb (fun b e => by cases e)).setCell h.lo.1 _, ?_⟩, by simp [intOf]⟩
        have e : ((work + 1 + l.length : Nat) : Int) = (work : Int) + (1 + (l.length : Int)) := by omega
        rw [e]
        exact h2.work _
    · go_wp2_with fail
      go_ret
      exact ⟨_, rfl, hbl, hst⟩
end Go.Proofs.Ybulkuoc
