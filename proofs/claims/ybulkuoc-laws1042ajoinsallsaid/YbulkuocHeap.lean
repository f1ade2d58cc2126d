/- container/heap over lowestFirst[uint64]: the rows as multisets. -/
import Derived.Test.YbulkuocTakeIn
namespace Go.Proofs.Ybulkuoc
open Go.RowKit
set_option maxRecDepth 20000 in
theorem mPush (b o : Nat) (w : World) : (method 315 117 (.pointer (some ⟨b, o, none⟩)) "Push").run Yba.prog w = .ok (126, .pointer (some ⟨b, o, none⟩)) w := by kernel_rfl
set_option maxRecDepth 20000 in
theorem mPop (b o : Nat) (w : World) : (method 315 117 (.pointer (some ⟨b, o, none⟩)) "Pop").run Yba.prog w = .ok (125, .pointer (some ⟨b, o, none⟩)) w := by kernel_rfl
set_option maxRecDepth 20000 in
theorem lv45 (b o : Nat) (w : World) (x : Value) (h : w.cell? ⟨b, o, none⟩ = some x) : (loadVar 45 ⟨b, o, none⟩).run Yba.prog w = .ok x w := by
  simp [loadVar, h, go_sem]

set_option maxRecDepth 20000 in
theorem recv45 (b o : Nat) (w : World) (x : Value) (nm : String) (h : w.cell? ⟨b, o, none⟩ = some x) : (receiverAt 117 (.val (.pointer (some ⟨b, o, none⟩))) false (some nm)).run Yba.prog w = .ok x w := by
  have e1 : (receiverAt 117 (.val (.pointer (some ⟨b, o, none⟩))) false (some nm)).run Yba.prog w = (loadVar 45 ⟨b, o, none⟩).run Yba.prog w := by kernel_rfl
  rw [e1, lv45 b o w x h]
theorem rLen : (Yba.prog.info? 117).bind (fun i => (i.methods.find? (·.name == "Len")).map (fun m => (m.path, m.func))) = some (#[], some (115, false)) := by kernel_rfl
theorem mLen (b o : Nat) (w : World) (x : Value) (h : w.cell? ⟨b, o, none⟩ = some x) : (method 315 117 (.pointer (some ⟨b, o, none⟩)) "Len").run Yba.prog w = .ok (115, x) w := by
  have hr := rLen
  cases hi : Yba.prog.info? 117 with
  | none => rw [hi] at hr; cases hr
  | some i =>
    rw [hi] at hr
    simp only [Option.bind_some] at hr
    cases hf : i.methods.find? (·.name == "Len") with
    | none => rw [hf] at hr; cases hr
    | some m =>
      rw [hf] at hr
      simp only [Option.map_some, Option.some.injEq, Prod.mk.injEq] at hr
      have ht : (typeInfo 117).run Yba.prog w = .ok i w := by simp [typeInfo, hi, go_sem]
      rw [method]
      simp only [Sem.run_bind, ht, Result.andThen_ok, hf, hr.1, hr.2]
      have hfo : ∀ w, (follow #[].toList 117 (.val (.pointer (some ⟨b, o, none⟩)))).run Yba.prog w = .ok (117, .val (.pointer (some ⟨b, o, none⟩))) w := fun w => by kernel_rfl
      rw [hfo]
      simp only [Result.andThen_ok, recv45 b o w x _ h, Sem.run_pure, Array.isEmpty_empty, if_true]
theorem rLess : (Yba.prog.info? 117).bind (fun i => (i.methods.find? (·.name == "Less")).map (fun m => (m.path, m.func))) = some (#[], some (116, false)) := by kernel_rfl
theorem mLess (b o : Nat) (w : World) (x : Value) (h : w.cell? ⟨b, o, none⟩ = some x) : (method 315 117 (.pointer (some ⟨b, o, none⟩)) "Less").run Yba.prog w = .ok (116, x) w := by
  have hr := rLess
  cases hi : Yba.prog.info? 117 with
  | none => rw [hi] at hr; cases hr
  | some i =>
    rw [hi] at hr
    simp only [Option.bind_some] at hr
    cases hf : i.methods.find? (·.name == "Less") with
    | none => rw [hf] at hr; cases hr
    | some m =>
      rw [hf] at hr
      simp only [Option.map_some, Option.some.injEq, Prod.mk.injEq] at hr
      have ht : (typeInfo 117).run Yba.prog w = .ok i w := by simp [typeInfo, hi, go_sem]
      rw [method]
      simp only [Sem.run_bind, ht, Result.andThen_ok, hf, hr.1, hr.2]
      have hfo : ∀ w, (follow #[].toList 117 (.val (.pointer (some ⟨b, o, none⟩)))).run Yba.prog w = .ok (117, .val (.pointer (some ⟨b, o, none⟩))) w := fun w => by kernel_rfl
      rw [hfo]
      simp only [Result.andThen_ok, recv45 b o w x _ h, Sem.run_pure, Array.isEmpty_empty, if_true]
theorem rSwap : (Yba.prog.info? 117).bind (fun i => (i.methods.find? (·.name == "Swap")).map (fun m => (m.path, m.func))) = some (#[], some (117, false)) := by kernel_rfl
theorem mSwap (b o : Nat) (w : World) (x : Value) (h : w.cell? ⟨b, o, none⟩ = some x) : (method 315 117 (.pointer (some ⟨b, o, none⟩)) "Swap").run Yba.prog w = .ok (117, x) w := by
  have hr := rSwap
  cases hi : Yba.prog.info? 117 with
  | none => rw [hi] at hr; cases hr
  | some i =>
    rw [hi] at hr
    simp only [Option.bind_some] at hr
    cases hf : i.methods.find? (·.name == "Swap") with
    | none => rw [hf] at hr; cases hr
    | some m =>
      rw [hf] at hr
      simp only [Option.map_some, Option.some.injEq, Prod.mk.injEq] at hr
      have ht : (typeInfo 117).run Yba.prog w = .ok i w := by simp [typeInfo, hi, go_sem]
      rw [method]
      simp only [Sem.run_bind, ht, Result.andThen_ok, hf, hr.1, hr.2]
      have hfo : ∀ w, (follow #[].toList 117 (.val (.pointer (some ⟨b, o, none⟩)))).run Yba.prog w = .ok (117, .val (.pointer (some ⟨b, o, none⟩))) w := fun w => by kernel_rfl
      rw [hfo]
      simp only [Result.andThen_ok, recv45 b o w x _ h, Sem.run_pure, Array.isEmpty_empty, if_true]

theorem u64s_length (l : List Nat) : (u64s l).length = l.length := by simp [u64s]
theorem u64s_at {l : List Nat} {i v : Nat} (h : l[i]? = some v) : (u64s l)[i]? = some (.int .u64 (v : Int)) := by simp [u64s, h]
theorem u64s_set (l : List Nat) (i v : Nat) : (u64s l).set i (.int .u64 (v : Int)) = u64s (l.set i v) := by simp [u64s]
theorem u64s_snoc (l : List Nat) (x : Nat) : u64s (l ++ [x]) = u64s l ++ [.int .u64 (x : Int)] := by simp [u64s]
theorem info22 : (Yba.prog.info? 22).map (fun i => (i.zero, i.size, i.bytes)) = some (some (.int .u64 0), 1, 8) := by kernel_rfl

/-- A variable that holds a heap's slice: what a state G says of it. -/
structure Loc (c : Tc) (b o : Nat) (G : (Nat → Option Ent) → Value → World → Prop) : Prop where
  sep : ∀ {K x w}, G K x w → Sep w c.base K
  cell : ∀ {K x w}, G K x w → w.cell? ⟨b, o, none⟩ = some x
  free : ∀ {K x w}, G K x w → w.frozen? ⟨b, o, none⟩ = false
  lo : ∀ {K x w}, G K x w → c.base ≤ b
  ty : ∀ {K x w}, G K x w → ∀ k e, K k = some e → TyOk e.t
  store : ∀ {K x w} (x' : Value), G K x w → G K x' (w.setCell ⟨b, o, none⟩ x')
  grow : ∀ {K x w K' w' r}, G K x w → Sep w' c.base K' → (∀ k e, K' k = some e → e.t = 22 ∨ ∃ k', K k' = some e) → w.grownBy w' r → (∀ b, r = some b → ∃ k e, K k = some e ∧ e.t = 22 ∧ e.v.ownBlock = some b) → G K' x w'

variable {c : Tc} {b o : Nat} {G : (Nat → Option Ent) → Value → World → Prop}
theorem Loc.drewN (h : Loc c b o G) {K : Nat → Option Ent} {x : Value} {w : World} (hg : G K x w) (n : Nat) : G K x (w.drewN n) := h.grow hg ((h.sep hg).drewN n) (fun k _ hk => .inr ⟨k, hk⟩) (r := none) ⟨rfl, rfl, rfl, Nat.le_refl _, fun _ _ _ => rfl⟩ (fun b e => by cases e)
theorem Loc.alloc (h : Loc c b o G) {K : Nat → Option Ent} {x : Value} {w : World} (hg : G K x w) (ob : Obj) : G K x (w.alloc ob) := h.grow hg ((h.sep hg).alloc ob) (fun k _ hk => .inr ⟨k, hk⟩) (r := none) ⟨rfl, rfl, rfl, by simp, fun b hb _ => Below.heap_alloc _ _ _ hb⟩ (fun b e => by cases e)

theorem old_upd {K : Nat → Option Ent} {k n : Nat} {x : Value} {xs : List Value} {e0 : Ent} : ∀ y e, upd K k ⟨22, 1, n, x, xs⟩ y = some e → e.t = 22 ∨ ∃ k', upd K k e0 k' = some e := by
  intro y e hy
  by_cases h1 : y = k
  · subst h1; rw [upd_same] at hy; cases hy; exact .inl rfl
  · exact .inr ⟨y, by rw [upd_other _ _ h1] at hy ⊢; exact hy⟩
theorem old_upd0 {K : Nat → Option Ent} {k n : Nat} {x : Value} {xs : List Value} : ∀ y e, upd K k ⟨22, 1, n, x, xs⟩ y = some e → e.t = 22 ∨ ∃ k', K k' = some e := by
  intro y e hy
  by_cases h1 : y = k
  · subst h1; rw [upd_same] at hy; cases hy; exact .inl rfl
  · exact .inr ⟨y, by rw [upd_other _ _ h1] at hy; exact hy⟩

/-- The row's order turns, nothing else. -/
structure HS (c : Tc) (G : (Nat → Option Ent) → Value → World → Prop) (K : Nat → Option Ent) (k g cc n : Nat) (Q : List Nat) (w0 w : World) : Prop where
  ex : ∃ Q', Q'.Perm Q ∧ G (upd K k ⟨22, 1, n, .slice (some ⟨g, 0, none⟩) n cc, u64s Q'⟩) (.slice (some ⟨g, 0, none⟩) n cc) w
  bel : Below c.base w0 w

set_option maxRecDepth 20000 in
set_option maxHeartbeats 3200000 in
theorem hLen_calls (ra : Option Addr) (n cc : Nat) (w : World) : Calls Yba.prog 115 #[.slice ra n cc] w fun e w' => e = .returned (.int .i64 (n : Nat)) ∧ w' = w := by
  go_enter Yba.func115, Yba.ntmps115
  go_wp2_with fail
  go_ret
  exact ⟨rfl, rfl⟩

set_option maxRecDepth 20000 in
set_option maxHeartbeats 3200000 in
theorem hLess_calls (g cc n i j x y : Nat) (w : World) (hi : i < n) (hj : j < n) (ci : w.cell? ⟨g, i, none⟩ = some (.int .u64 (x : Int))) (cj : w.cell? ⟨g, j, none⟩ = some (.int .u64 (y : Int))) :
    Calls Yba.prog 116 #[.slice (some ⟨g, 0, none⟩) n cc, .int .i64 (i : Nat), .int .i64 (j : Nat)] w fun e w' => (∃ f, e = .returned (.bool f)) ∧ ∃ m, w' = w.drewN m := by
  have hi' : (i : Int) < (n : Int) := by omega
  have hj' : (j : Int) < (n : Int) := by omega
  go_enter Yba.func116, Yba.ntmps116
  go_wp2_with fail
  go_quiet (fail)
  go_wp2_with fail
  go_ret
  exact ⟨⟨_, rfl⟩, nq, rfl⟩

set_option maxRecDepth 20000 in
set_option maxHeartbeats 3200000 in
theorem hSwap_calls (hL : Loc c b o G) (K : Nat → Option Ent) (k g cc n i j : Nat) (Q : List Nat) (w0 w : World) (hk : HS c G K k g cc n Q w0 w) (hn : Q.length = n) (hi : i < n) (hj : j < n) :
    Calls Yba.prog 117 #[.slice (some ⟨g, 0, none⟩) n cc, .int .i64 (i : Nat), .int .i64 (j : Nat)] w fun e w' => e = .returned (.tuple #[]) ∧ HS c G K k g cc n Q w0 w' := by
  obtain ⟨⟨Q', hp, hg⟩, hbl⟩ := hk
  have hl := hp.length_eq
  have ek := upd_same K k ⟨22, 1, n, .slice (some ⟨g, 0, none⟩) n cc, u64s Q'⟩
  obtain ⟨x, hx⟩ : ∃ x, Q'[i]? = some x := ⟨_, List.getElem?_eq_getElem (by omega)⟩
  obtain ⟨y, hy⟩ : ∃ y, Q'[j]? = some y := ⟨_, List.getElem?_eq_getElem (by omega)⟩
  have hsep := hL.sep hg
  have ci := hsep.cell ek (u64s_at hx)
  have cj := hsep.cell ek (u64s_at hy)
  have fi := hsep.free ek i
  have fj := hsep.free ek j
  have hi' : (i : Int) < (n : Int) := by omega
  have hj' : (j : Int) < (n : Int) := by omega
  have hgb := (hsep.lt ek g rfl).1
  have hs3 := hsep.put ek (j := i) (.int .u64 (y : Int))
  rw [upd_upd, u64s_set] at hs3
  have hs4 := hs3.put (upd_same _ _ _) (j := j) (.int .u64 (x : Int))
  rw [upd_upd, u64s_set] at hs4
  have hgr : w.grownBy ((w.setCell ⟨g, i, none⟩ (.int .u64 (y : Int))).setCell ⟨g, j, none⟩ (.int .u64 (x : Int))) (some g) := ⟨rfl, rfl, rfl, by simp, fun b _ hb => by
    have hbg : b ≠ g := fun e => hb (by rw [e])
    rw [Below.heap_setCell _ _ _ _ hbg, Below.heap_setCell _ _ _ _ hbg]⟩
  have hG4 := hL.grow hg hs4 old_upd hgr (fun b hb => ⟨k, _, ek, rfl, hb⟩)
  have hbl4 : Below c.base w0 ((w.setCell ⟨g, i, none⟩ (.int .u64 (y : Int))).setCell ⟨g, j, none⟩ (.int .u64 (x : Int))) := (hbl.setCell hgb _).setCell hgb _
  have HG : Hid (G (upd K k ⟨22, 1, n, .slice (some ⟨g, 0, none⟩) n cc, u64s ((Q'.set i y).set j x)⟩) (.slice (some ⟨g, 0, none⟩) n cc) ((w.setCell ⟨g, i, none⟩ (.int .u64 (y : Int))).setCell ⟨g, j, none⟩ (.int .u64 (x : Int)))) := hG4
  have HB : Hid (Below c.base w0 ((w.setCell ⟨g, i, none⟩ (.int .u64 (y : Int))).setCell ⟨g, j, none⟩ (.int .u64 (x : Int)))) := hbl4
  have HP : Hid (((Q'.set i y).set j x).Perm Q) := (swap_perm hx hy).trans hp
  clear hG4 hbl4 hs3 hs4 hgr hg hbl hp ek hsep
  by_cases hij : i = j
  · subst hij
    obtain rfl : x = y := by rw [hx] at hy; exact Option.some.inj hy
    go_enter Yba.func117, Yba.ntmps117
    go_region
    all_goals
      go_wp2_with fail
      go_end0
      exact ⟨rfl, ⟨_, HP.out, hL.drewN HG.out 1⟩, below_drewN HB.out 1⟩
  · have hij' : ¬ (j = i) := fun e => hij e.symm
    go_enter Yba.func117, Yba.ntmps117
    go_region
    all_goals
      go_wp2_with fail
      go_end0
      exact ⟨rfl, ⟨_, HP.out, hL.drewN HG.out 1⟩, below_drewN HB.out 1⟩

set_option maxRecDepth 20000 in
theorem ta22 (key : Int) (w : World) : (Instr.typeAssert (.iface 22 (.int .u64 key)) 20 22 false).run Yba.prog w = .ok (.int .u64 key) w := by kernel_rfl

set_option maxRecDepth 20000 in
set_option maxHeartbeats 3200000 in
theorem hPush_calls (hL : Loc c b o G) (K : Nat → Option Ent) (k key : Nat) (x : Value) (Q : List Nat) (w : World) (hk : K k = some ⟨22, 1, Q.length, x, u64s Q⟩) (hg : G K x w) (hb : c.base ≤ w.heap.size) (hn : Q.length ≤ 9000) :
    Calls Yba.prog 126 #[.pointer (some ⟨b, o, none⟩), .iface 22 (.int .u64 (key : Int))] w fun e w' => e = .returned (.tuple #[]) ∧ Below c.base w w' ∧ ∃ g cc, G (upd K k ⟨22, 1, Q.length + 1, .slice (some ⟨g, 0, none⟩) (Q.length + 1) cc, u64s (Q ++ [key])⟩) (.slice (some ⟨g, 0, none⟩) (Q.length + 1) cc) w' := by
  obtain ⟨ra, rc, rfl, _⟩ := (hL.sep hg).shape hk
  have cb := hL.cell hg
  have fb := hL.free hg
  have hlo := hL.lo hg
  have hgd := hL.drewN hg 1
  have hA := hL.alloc hgd (.cells #[.int .u64 (key : Int)] 22)
  have cbA := hL.cell hA
  have hta := ta22 (key : Int)
  have cbA' : (w.alloc (.cells #[.int .u64 (key : Int)] 22)).cell? ⟨b, o, none⟩ = some (.slice ra Q.length rc) := cbA
  go_enter Yba.func126, Yba.ntmps126
  go_region_law (refine step_app1 _ rfl (.tmp 7) (.tmp 10) 45 rfl (hL.sep hA) hk Yba.underlying45 info22 rfl (by first | rfl | simp [Act.eval]) w.heap.size 1 (.int .u64 (key : Int)) (by first | rfl | simp [Act.eval]) (by first | rfl | simp) rfl (by omega) (by omega) (by simp; omega) ?_; intro g2 c2 w2 hs2 hg2 hb2; have hG2 := hL.grow hA hs2 old_upd0 hg2 (fun b hb => ⟨k, _, hk, rfl, hb⟩); have d0 := hL.cell hG2; have d1 := hL.free hG2)
  all_goals
    go_end0
    refine ⟨rfl, ((((below_drewN (Below.refl c.base w) 1).alloc hb _).trans hb2).setCell hlo _), g2, c2, ?_⟩
    rw [u64s_snoc]
    exact hL.store _ hG2

set_option maxRecDepth 20000 in
set_option maxHeartbeats 3200000 in
theorem up_calls (hL : Loc c b o G) (K : Nat → Option Ent) (k g cc n j : Nat) (Q : List Nat) (w0 w : World) (hk : HS c G K k g cc n Q w0 w) (hn : Q.length = n) (hn9 : n ≤ 9001) (hj : j < n) :
    Calls Yba.prog 71 #[.iface 117 (.pointer (some ⟨b, o, none⟩)), .int .i64 (j : Nat)] w fun e w' => e = .returned (.tuple #[]) ∧ HS c G K k g cc n Q w0 w' := by
  go_enter Yba.func71, Yba.ntmps71
  go_wp2_with fail
  go_loopw [1] (fun jv wr => (∃ j : Nat, j < n ∧ jv = .int .i64 j) ∧ HS c G K k g cc n Q w0 wr) (fun jv _ => (intOf jv).toNat)
  case atStart => exact ⟨⟨j, hj, rfl⟩, hk⟩
  case round =>
    clear hk hj j
    obtain ⟨⟨j, hj, rfl⟩, hk⟩ := hrel
    obtain ⟨⟨Q', hp, hg⟩, hbl⟩ := hk
    have hl := hp.length_eq
    have ek := upd_same K k ⟨22, 1, n, .slice (some ⟨g, 0, none⟩) n cc, u64s Q'⟩
    have cb := hL.cell hg
    by_cases hj0 : j = 0
    · subst hj0
      go_wp2_with fail
      go_end0
      exact ⟨rfl, ⟨Q', hp, hg⟩, hbl⟩
    · obtain ⟨i, hi⟩ : ∃ i, i = (j - 1) / 2 := ⟨_, rfl⟩
      have hij : i < j := by omega
      have hdv : ((j : Int) - 1) / 2 = (i : Int) := by omega
      have HI : Hid (i = (j - 1) / 2) := hi
      clear hi
      obtain ⟨x, hx⟩ : ∃ x, Q'[j]? = some x := ⟨_, List.getElem?_eq_getElem (by omega)⟩
      obtain ⟨y, hy⟩ : ∃ y, Q'[i]? = some y := ⟨_, List.getElem?_eq_getElem (by omega)⟩
      have cj := (hL.sep hg).cell ek (u64s_at hx)
      have ci := (hL.sep hg).cell ek (u64s_at hy)
      have hml := mLess b o wr _ cb
      have hne : ((i : Int) == (j : Int)) = false := by rw [beq_eq_false_iff_ne]; omega
      go_wp2_with fail
      refine Calls.mono (hLess_calls g cc n j i x y wr hj (by omega) cj ci) ?_
      rintro e w1 ⟨⟨f, rfl⟩, m1, rfl⟩
      have hg1 := hL.drewN hg m1
      have hbl1 := below_drewN hbl m1
      have hms := mSwap b o (wr.drewN m1) _ (hL.cell hg1)
      have hk1 : HS c G K k g cc n Q w0 (wr.drewN m1) := ⟨⟨Q', hp, hg1⟩, hbl1⟩
      have HP : Hid (Q'.Perm Q) := hp
      clear hp hg
      cases f with
      | false =>
        go_wp2_with fail
        go_end0
        exact ⟨rfl, hk1⟩
      | true =>
        go_wp2_with fail
        refine Calls.mono (hSwap_calls hL K k g cc n i j Q w0 _ hk1 hn (by omega) hj) ?_
        rintro e w2 ⟨rfl, hk2⟩
        go_wp2_with fail
        exact ⟨⟨⟨i, by omega, rfl⟩, hk2⟩, by simp [intOf]; omega⟩

set_option maxRecDepth 20000 in
set_option maxHeartbeats 3200000 in
theorem heapPush_calls (hL : Loc c b o G) (K : Nat → Option Ent) (k key : Nat) (x : Value) (Q : List Nat) (w : World) (hk : K k = some ⟨22, 1, Q.length, x, u64s Q⟩) (hg : G K x w) (hb : c.base ≤ w.heap.size) (hn : Q.length ≤ 9000) :
    Calls Yba.prog 53 #[.iface 117 (.pointer (some ⟨b, o, none⟩)), .iface 22 (.int .u64 (key : Int))] w fun e w' => e = .returned (.tuple #[]) ∧ ∃ g cc, HS c G K k g cc (Q.length + 1) (Q ++ [key]) w w' := by
  have hmp := mPush b o
  go_enter Yba.func53, Yba.ntmps53
  go_wp2_with fail
  refine Calls.mono (hPush_calls hL K k key x Q w hk hg hb hn) ?_
  rintro e w1 ⟨rfl, hbl1, g, cc, hg1⟩
  have hml := mLen b o w1 _ (hL.cell hg1)
  go_wp2_with fail
  refine Calls.mono (hLen_calls _ _ _ w1) ?_
  rintro e w2 ⟨rfl, rfl⟩
  have hq1 : (((Q.length + 1 : Nat) : Int) - 1) = (Q.length : Int) := by omega
  go_wp2_with fail
  refine Calls.mono (up_calls hL K k g cc (Q.length + 1) Q.length (Q ++ [key]) w w2 ⟨⟨Q ++ [key], List.Perm.refl _, hg1⟩, hbl1⟩ (by simp) (by omega) (by omega)) ?_
  rintro e w3 ⟨rfl, hk3⟩
  go_wp2_with fail
  go_end0
  exact ⟨rfl, g, cc, hk3⟩

theorem Sep.shrink {w : World} {base : Nat} {K : Nat → Option Ent} (h : Sep w base K) {k t n g cc : Nat} {xs : List Value} (hk : K k = some ⟨t, 1, n + 1, .slice (some ⟨g, 0, none⟩) (n + 1) cc, xs⟩) : Sep w base (upd K k ⟨t, 1, n, .slice (some ⟨g, 0, none⟩) n cc, xs.take n⟩) := by
  refine h.turn hk ?_ ⟨rfl, rfl, rfl, Nat.le_refl _, fun _ _ _ => rfl⟩ (fun b hb => .inl hb)
  obtain ⟨h1, h2⟩ := h.own k _ hk
  simp only [Nat.mul_one] at h1
  refine ⟨by simp; omega, .inr ?_⟩
  rcases h2 with ⟨e, _⟩ | ⟨g', cap, cur, e, a1, a2, a3, a4, a5, a6⟩
  · cases e
  · cases e
    refine ⟨g, cc, cur, rfl, a1, a2, ?_, a4, a5, ?_⟩
    · have : n + 1 ≤ cc := a3
      show n ≤ cc
      omega
    · simp only [Nat.mul_one] at a6 ⊢
      rw [← a6, List.take_take, Nat.min_eq_left (by omega)]

set_option maxRecDepth 20000 in
set_option maxHeartbeats 3200000 in
theorem down_calls (hL : Loc c b o G) (K : Nat → Option Ent) (k g cc n nn : Nat) (Q : List Nat) (w0 w : World) (hk : HS c G K k g cc n Q w0 w) (hn : Q.length = n) (hn9 : n ≤ 9001) (hnn : nn ≤ n) :
    Calls Yba.prog 72 #[.iface 117 (.pointer (some ⟨b, o, none⟩)), .int .i64 0, .int .i64 (nn : Nat)] w fun e w' => (∃ f, e = .returned (.bool f)) ∧ HS c G K k g cc n Q w0 w' := by
  go_enter Yba.func72, Yba.ntmps72
  go_wp2_with fail
  go_loopw [7] (fun iv wr => (∃ i : Nat, i ≤ n ∧ iv = .int .i64 i) ∧ HS c G K k g cc n Q w0 wr) (fun iv _ => n - (intOf iv).toNat)
  case atStart => exact ⟨⟨0, by omega, rfl⟩, hk⟩
  case round =>
    clear hk
    obtain ⟨⟨i, hi, rfl⟩, hk⟩ := hrel
    by_cases hj1 : 2 * i + 1 < nn
    · obtain ⟨j1, hj1e⟩ : ∃ j1, j1 = 2 * i + 1 := ⟨_, rfl⟩
      obtain ⟨j2, hj2e⟩ : ∃ j2, j2 = j1 + 1 := ⟨_, rfl⟩
      have hc1 : (2 * (i : Int) + 1) = (j1 : Int) := by omega
      have hc2 : ((j1 : Int) + 1) = (j2 : Int) := by omega
      have hj1n : j1 < n := by omega
      have hin : i < n := by omega
      have hij : i < j1 := by omega
      have hg1' : ¬ ((nn : Int) ≤ (j1 : Int)) := by omega
      have hp1' : ¬ ((j1 : Int) < 0) := by omega
      have HE : Hid (j1 = 2 * i + 1 ∧ j2 = j1 + 1 ∧ 2 * i + 1 < nn) := ⟨hj1e, hj2e, hj1⟩
      clear hj1e hj2e hj1
      obtain ⟨⟨Q', hp, hg⟩, hbl⟩ := hk
      have hl := hp.length_eq
      have ek := upd_same K k ⟨22, 1, n, .slice (some ⟨g, 0, none⟩) n cc, u64s Q'⟩
      have HP : Hid (Q'.Perm Q) := hp
      clear hp
      by_cases hj2n : j2 < nn
      · have hj2n' : (j2 : Int) < (nn : Int) := by omega
        obtain ⟨x, hx⟩ : ∃ x, Q'[j2]? = some x := ⟨_, List.getElem?_eq_getElem (by have := HE.out; omega)⟩
        obtain ⟨y, hy⟩ : ∃ y, Q'[j1]? = some y := ⟨_, List.getElem?_eq_getElem (by have := HE.out; omega)⟩
        have cj := (hL.sep hg).cell ek (u64s_at hx)
        have ci := (hL.sep hg).cell ek (u64s_at hy)
        have hml := mLess b o wr _ (hL.cell hg)
        go_wp2_with fail
        refine Calls.mono (hLess_calls g cc n j2 j1 x y wr (by omega) hj1n cj ci) ?_
        rintro e w1 ⟨⟨f, rfl⟩, m1, rfl⟩
        have hk1 : HS c G K k g cc n Q w0 (wr.drewN m1) := ⟨⟨Q', HP.out, hL.drewN hg m1⟩, below_drewN hbl m1⟩
        generalize wr.drewN m1 = wq at hk1 ⊢
        cases f with
        | true =>
          obtain ⟨⟨Q2, hp2, hg2⟩, hbl2⟩ := hk1
          have ek2 := upd_same K k ⟨22, 1, n, .slice (some ⟨g, 0, none⟩) n cc, u64s Q2⟩
          have hl2 := hp2.length_eq
          have hjn : j2 < n := by omega
          obtain ⟨x2, hx2⟩ : ∃ x, Q2[j2]? = some x := ⟨_, List.getElem?_eq_getElem (by omega)⟩
          obtain ⟨y2, hy2⟩ : ∃ y, Q2[i]? = some y := ⟨_, List.getElem?_eq_getElem (by omega)⟩
          have dj := (hL.sep hg2).cell ek2 (u64s_at hx2)
          have di := (hL.sep hg2).cell ek2 (u64s_at hy2)
          have hml2 := mLess b o wq _ (hL.cell hg2)
          have HP2 : Hid (Q2.Perm Q) := hp2
          clear hp2
          go_wp2_with fail
          refine Calls.mono (hLess_calls g cc n j2 i x2 y2 wq hjn hin dj di) ?_
          rintro e w3 ⟨⟨f3, rfl⟩, m3, rfl⟩
          have hg3 := hL.drewN hg2 m3
          have hk3 : HS c G K k g cc n Q w0 (wq.drewN m3) := ⟨⟨Q2, HP2.out, hg3⟩, below_drewN hbl2 m3⟩
          have hms := mSwap b o (wq.drewN m3) _ (hL.cell hg3)
          cases f3 with
          | false =>
            go_wp2_with fail
            go_ret
            exact ⟨⟨_, rfl⟩, hk3⟩
          | true =>
            go_wp2_with fail
            refine Calls.mono (hSwap_calls hL K k g cc n i j2 Q w0 _ hk3 hn hin hjn) ?_
            rintro e w4 ⟨rfl, hk4⟩
            go_wp2_with fail
            exact ⟨⟨⟨j2, by omega, rfl⟩, hk4⟩, by have := HE.out; simp [intOf]; omega⟩
        | false =>
          obtain ⟨⟨Q2, hp2, hg2⟩, hbl2⟩ := hk1
          have ek2 := upd_same K k ⟨22, 1, n, .slice (some ⟨g, 0, none⟩) n cc, u64s Q2⟩
          have hl2 := hp2.length_eq
          have hjn : j1 < n := hj1n
          obtain ⟨x2, hx2⟩ : ∃ x, Q2[j1]? = some x := ⟨_, List.getElem?_eq_getElem (by omega)⟩
          obtain ⟨y2, hy2⟩ : ∃ y, Q2[i]? = some y := ⟨_, List.getElem?_eq_getElem (by omega)⟩
          have dj := (hL.sep hg2).cell ek2 (u64s_at hx2)
          have di := (hL.sep hg2).cell ek2 (u64s_at hy2)
          have hml2 := mLess b o wq _ (hL.cell hg2)
          have HP2 : Hid (Q2.Perm Q) := hp2
          clear hp2
          go_wp2_with fail
          refine Calls.mono (hLess_calls g cc n j1 i x2 y2 wq hjn hin dj di) ?_
          rintro e w3 ⟨⟨f3, rfl⟩, m3, rfl⟩
          have hg3 := hL.drewN hg2 m3
          have hk3 : HS c G K k g cc n Q w0 (wq.drewN m3) := ⟨⟨Q2, HP2.out, hg3⟩, below_drewN hbl2 m3⟩
          have hms := mSwap b o (wq.drewN m3) _ (hL.cell hg3)
          cases f3 with
          | false =>
            go_wp2_with fail
            go_ret
            exact ⟨⟨_, rfl⟩, hk3⟩
          | true =>
            go_wp2_with fail
            refine Calls.mono (hSwap_calls hL K k g cc n i j1 Q w0 _ hk3 hn hin hjn) ?_
            rintro e w4 ⟨rfl, hk4⟩
            go_wp2_with fail
            exact ⟨⟨⟨j1, by omega, rfl⟩, hk4⟩, by have := HE.out; simp [intOf]; omega⟩
      · have hj2n' : ¬ ((j2 : Int) < (nn : Int)) := by omega
        have hk1 : HS c G K k g cc n Q w0 wr := ⟨⟨Q', HP.out, hg⟩, hbl⟩
        obtain ⟨⟨Q2, hp2, hg2⟩, hbl2⟩ := hk1
        have ek2 := upd_same K k ⟨22, 1, n, .slice (some ⟨g, 0, none⟩) n cc, u64s Q2⟩
        have hl2 := hp2.length_eq
        have hjn : j1 < n := hj1n
        obtain ⟨x2, hx2⟩ : ∃ x, Q2[j1]? = some x := ⟨_, List.getElem?_eq_getElem (by omega)⟩
        obtain ⟨y2, hy2⟩ : ∃ y, Q2[i]? = some y := ⟨_, List.getElem?_eq_getElem (by omega)⟩
        have dj := (hL.sep hg2).cell ek2 (u64s_at hx2)
        have di := (hL.sep hg2).cell ek2 (u64s_at hy2)
        have hml2 := mLess b o wr _ (hL.cell hg2)
        have HP2 : Hid (Q2.Perm Q) := hp2
        clear hp2
        go_wp2_with fail
        refine Calls.mono (hLess_calls g cc n j1 i x2 y2 wr hjn hin dj di) ?_
        rintro e w3 ⟨⟨f3, rfl⟩, m3, rfl⟩
        have hg3 := hL.drewN hg2 m3
        have hk3 : HS c G K k g cc n Q w0 ((wr).drewN m3) := ⟨⟨Q2, HP2.out, hg3⟩, below_drewN hbl2 m3⟩
        have hms := mSwap b o ((wr).drewN m3) _ (hL.cell hg3)
        cases f3 with
        | false =>
          go_wp2_with fail
          go_ret
          exact ⟨⟨_, rfl⟩, hk3⟩
        | true =>
          go_wp2_with fail
          refine Calls.mono (hSwap_calls hL K k g cc n i j1 Q w0 _ hk3 hn hin hjn) ?_
          rintro e w4 ⟨rfl, hk4⟩
          go_wp2_with fail
          exact ⟨⟨⟨j1, by omega, rfl⟩, hk4⟩, by have := HE.out; simp [intOf]; omega⟩
    · have hj1' : ((nn : Int) ≤ 2 * (i : Int) + 1) := by omega
      go_wp2_with fail
      go_ret
      exact ⟨⟨_, rfl⟩, hk⟩

set_option maxRecDepth 20000 in
set_option maxHeartbeats 3200000 in
theorem hPop_calls (hL : Loc c b o G) (K : Nat → Option Ent) (k g cc n : Nat) (Q : List Nat) (w : World) (hg : G (upd K k ⟨22, 1, n + 1, .slice (some ⟨g, 0, none⟩) (n + 1) cc, u64s Q⟩) (.slice (some ⟨g, 0, none⟩) (n + 1) cc) w) (hn : Q.length = n + 1) (hn9 : n ≤ 9001) :
    Calls Yba.prog 125 #[.pointer (some ⟨b, o, none⟩)] w fun e w' => ∃ key : Nat, e = .returned (.iface 22 (.int .u64 (key : Int))) ∧ Below c.base w w' ∧ Q = Q.take n ++ [key] ∧ G (upd K k ⟨22, 1, n, .slice (some ⟨g, 0, none⟩) n cc, u64s (Q.take n)⟩) (.slice (some ⟨g, 0, none⟩) n cc) w' := by
  have ek := upd_same K k ⟨22, 1, n + 1, .slice (some ⟨g, 0, none⟩) (n + 1) cc, u64s Q⟩
  obtain ⟨key, hkey⟩ : ∃ key, Q[n]? = some key := ⟨_, List.getElem?_eq_getElem (by omega)⟩
  have cb := hL.cell hg
  have fb := hL.free hg
  have ck := (hL.sep hg).cell ek (u64s_at hkey)
  have hlo := hL.lo hg
  have hcc : n + 1 ≤ cc := by
    rcases ((hL.sep hg).form ek).2 with ⟨_, h2⟩ | ⟨_, _, h1, _, _, h3, _⟩
    · exact absurd h2 (by simp)
    · have h1' : (Value.slice (some ⟨g, 0, none⟩) (n + 1) cc) = .slice _ (n + 1) _ := h1
      simp only [Value.slice.injEq] at h1'
      rw [h1'.2.2]
      exact h3
  have hs2 := (hL.sep hg).shrink ek
  rw [upd_upd] at hs2
  have hG2 := hL.grow hg hs2 old_upd (r := none) ⟨rfl, rfl, rfl, Nat.le_refl _, fun _ _ _ => rfl⟩ (fun b e => by cases e)
  have hG3 := hL.store (.slice (some ⟨g, 0, none⟩) n cc) hG2
  have htk : Q = Q.take n ++ [key] := by
    obtain ⟨h1, h2⟩ := List.getElem?_eq_some_iff.1 hkey
    rw [← h2, ← List.take_succ_eq_append_getElem h1, List.take_of_length_le (by omega)]
  have hu : (u64s Q).take n = u64s (Q.take n) := by simp [u64s]
  rw [hu] at hG3
  have HG3 : Hid (G (upd K k ⟨22, 1, n, .slice (some ⟨g, 0, none⟩) n cc, u64s (Q.take n)⟩) (.slice (some ⟨g, 0, none⟩) n cc) (w.setCell ⟨b, o, none⟩ (.slice (some ⟨g, 0, none⟩) n cc))) := hG3
  have HTK : Hid (Q = Q.take n ++ [key]) := htk
  clear hG3 hG2 hs2 hu htk hg
  have hcc' : ((n : Int) + 1) ≤ (cc : Int) := by omega
  go_enter Yba.func125, Yba.ntmps125
  go_wp2_with fail
  go_ret
  exact ⟨key, rfl, (Below.refl _ _).setCell hlo _, HTK.out, HG3.out⟩

set_option maxRecDepth 20000 in
set_option maxHeartbeats 3200000 in
theorem heapPop_calls (hL : Loc c b o G) (K : Nat → Option Ent) (k g cc n : Nat) (Q : List Nat) (w : World) (hg : G (upd K k ⟨22, 1, n + 1, .slice (some ⟨g, 0, none⟩) (n + 1) cc, u64s Q⟩) (.slice (some ⟨g, 0, none⟩) (n + 1) cc) w) (hn : Q.length = n + 1) (hn9 : n ≤ 9000) :
    Calls Yba.prog 54 #[.iface 117 (.pointer (some ⟨b, o, none⟩))] w fun e w' => ∃ (key : Nat) (Q' : List Nat), e = .returned (.iface 22 (.int .u64 (key : Int))) ∧ Below c.base w w' ∧ (key :: Q').Perm Q ∧ Q'.length = n ∧ G (upd K k ⟨22, 1, n, .slice (some ⟨g, 0, none⟩) n cc, u64s Q'⟩) (.slice (some ⟨g, 0, none⟩) n cc) w' := by
  have hml := mLen b o w _ (hL.cell hg)
  have hms := mSwap b o w _ (hL.cell hg)
  have hmp := mPop b o
  have hq1 : (((n + 1 : Nat) : Int) - 1) = (n : Int) := by omega
  go_enter Yba.func54, Yba.ntmps54
  go_wp2_with fail
  refine Calls.mono (hLen_calls _ _ _ w) ?_
  rintro e w1 ⟨rfl, rfl⟩
  go_wp2_with fail
  refine Calls.mono (hSwap_calls hL K k g cc (n + 1) 0 n Q w1 w1 ⟨⟨Q, List.Perm.refl _, hg⟩, Below.refl _ _⟩ hn (by omega) (by omega)) ?_
  rintro e w2 ⟨rfl, hk2⟩
  go_wp2_with fail
  refine Calls.mono (down_calls hL K k g cc (n + 1) n Q w1 w2 hk2 hn (by omega) (by omega)) ?_
  rintro e w3 ⟨⟨f, rfl⟩, hk3⟩
  obtain ⟨⟨Q3, hp3, hg3⟩, hbl3⟩ := hk3
  have HP3 : Hid (Q3.Perm Q) := hp3
  clear hp3
  go_wp2_with fail
  refine Calls.mono (hPop_calls hL K k g cc n Q3 w3 hg3 (HP3.out.length_eq.trans hn) (by omega)) ?_
  rintro e w4 ⟨key, rfl, hbl4, htk, hg4⟩
  go_wp2_with fail
  go_ret
  refine ⟨key, Q3.take n, rfl, hbl3.trans hbl4, ?_, ?_, hg4⟩
  · refine List.Perm.trans ?_ HP3.out
    conv => rhs; rw [htk]
    exact (List.perm_append_singleton key (Q3.take n)).symm
  · have := HP3.out.length_eq
    simp
    omega
end Go.Proofs.Ybulkuoc
