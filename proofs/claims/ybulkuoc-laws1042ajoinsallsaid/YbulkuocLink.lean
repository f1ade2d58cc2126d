/- link. -/
import Derived.Test.YbulkuocElem
namespace Go.Proofs.Ybulkuoc
open Go.RowKit

/-- Edges have come. -/
theorem Rw.edge {c : Tc} {K K' : Nat → Option Ent} {v : Tv} {D : Nat → Option Ent} {J : List Nat} {O I O' I' : Nat → List Nat} {L : Nat → Int} {B B' m p q : Nat} (h : Rw c K v D J O I L B m) (hk : ∀ n, n < 1000 → n ≠ 2 → n ≠ 3 → n ≠ 300 + p → n ≠ 400 + q → K' n = K n) (h2 : Mat K' 2 300 (J.length + 2) v.out O') (h3 : Mat K' 3 400 (J.length + 2) v.inn I') (bO : ∀ p, (O' p).length ≤ B') (bI : ∀ p, (I' p).length ≤ B') (hB : B ≤ B') : Rw c K' v D J O' I' L B' m := by
  have hl := h.lJ
  have hs : ∀ n, n < 300 → n ≠ 2 → n ≠ 3 → K' n = K n := fun n h1 h2 h3 => hk n (by omega) h2 h3 (by omega) (by omega)
  refine ⟨?_, ?_, h2, h3, ?_, ?_, ?_, ?_, ?_, ?_, ?_, ?_, ?_, ?_, ?_, ?_, ?_, bO, bI, h.lJ, h.st⟩
  · rw [hs 0 (by omega) (by omega) (by omega)]; exact h.r0
  · rw [hs 1 (by omega) (by omega) (by omega)]; exact h.r1
  · rw [hs 4 (by omega) (by omega) (by omega)]; exact h.r4
  · rw [hs 5 (by omega) (by omega) (by omega)]; exact h.r5
  · rw [hs 6 (by omega) (by omega) (by omega)]
    obtain ⟨f, e, b⟩ := h.r6
    exact ⟨f, e, fun y => by have := b y; omega⟩
  · rw [hs 7 (by omega) (by omega) (by omega)]; exact h.r7
  · rw [hs 8 (by omega) (by omega) (by omega)]
    obtain ⟨f, e, b⟩ := h.r8
    exact ⟨f, e, fun y => by have := b y; omega⟩
  · rw [hs 9 (by omega) (by omega) (by omega)]; exact h.r9
  · rw [hs 10 (by omega) (by omega) (by omega)]; exact h.r10
  · rw [hs 11 (by omega) (by omega) (by omega)]; exact h.r11
  · rw [hs 12 (by omega) (by omega) (by omega)]; exact h.r12
  · rw [hs 13 (by omega) (by omega) (by omega)]; exact h.r13
  · rw [hs 14 (by omega) (by omega) (by omega)]
    obtain ⟨g, e, b⟩ := h.r14
    exact ⟨g, e, by omega⟩
  · rw [hs 18 (by omega) (by omega) (by omega)]
    obtain ⟨g, e, b, r⟩ := h.r18
    exact ⟨g, e, by omega, r⟩
  · intro n h1 h2
    rw [hs n (by omega) (by omega) (by omega)]
    exact h.rD n h1 h2

theorem el_append {c : Tc} {v : Tv} {bx : Nat} {w0 : World} {ops : Array Oper} {Q : Exit → Act → World → Prop} {kp T : Nat} {l : List Nat} {q : Nat} {x : Value} {i : Nat} {o : Oper} {s1 s2 : Nat} {d : Option Nat} (ho : ops[i]? = some o) (hg : o.guard = none) (hd : o.dst = d) (hop : o.op = .call { callee := .builtin .append, args := #[.tmp s1, .tmp s2], argTypes := #[26, 26] }) (hn : l.length ≤ 10000)
    (a : Act) (w : World) (K' : Nat → Option Ent) (b : Nat) (hE : ElSt c v bx w0 K' w) (hk : K' kp = some ⟨3, 1, l.length, x, ints l⟩) (hT : K' T = some ⟨3, 1, 1, .slice (some ⟨b, 0, none⟩) 1 1, [.int .i64 (q : Int)]⟩) (h1 : a.tmps[s1]? = some x) (h2 : a.tmps[s2]? = some (.slice (some ⟨b, 0, none⟩) 1 1))
    (Kc : Act → World → Prop) (hK : ∀ g cc w', Below c.base w w' → w.grownBy w' x.ownBlock → St c (upd K' kp ⟨3, 1, l.length + 1, .slice (some ⟨g, 0, none⟩) (l.length + 1) cc, ints (l ++ [q])⟩) v w' → Kc (a.put d (.slice (some ⟨g, 0, none⟩) (l.length + 1) cc)) w') : wpOp Yba.prog ops Q i Kc a w := by
  obtain ⟨i3, hi, hz0, hz1, hz2⟩ := info_parts info3
  have hst := hE.st
  have hcB : w.cell? ⟨b, 0, none⟩ = some (.int .i64 (q : Int)) := hst.sep.cell hT rfl
  obtain ⟨g, cap, w2, hr2, ho2, hg2, hat2, hlt2⟩ := run_append_lies (P := Yba.prog) w 26 o.type c.base 3 i3 _ 1 8 Yba.underlying26 hi hz0 hz1 hz2 rfl (by omega) x l.length (ints l) (hst.sep.own _ _ hk) ⟨b, 0, none⟩ 1 1 [.int .i64 (q : Int)] rfl (by
    intro j u hj
    cases j with
    | zero => simp at hj; subst hj; simpa [Addr.add] using hcB
    | succ j => simp at hj) (by intro u hu; rw [List.mem_singleton.1 hu]; rfl) (by omega) (by unfold maxLen; omega) (by omega) hE.size w.heap.size rfl
  have hs2 := hst.sep.turn (e' := ⟨3, 1, l.length + 1, .slice (some ⟨g, 0, none⟩) (l.length + 1) cap, ints l ++ [.int .i64 (q : Int)]⟩) hk ho2 hg2 (by
    intro b' hb'
    simp [Value.ownBlock] at hb'
    subst hb'
    rcases hat2 with h | h
    · exact .inl h
    · exact .inr (by omega))
  rw [← ints_snoc] at hs2
  refine wpOp_val ho hg hd ?_ (hK g cap w2 ((Below.refl _ _).grown hg2 hE.size (fun b' hb' => (hst.sep.lt hk b' hb').1)) hg2 (hst.grow hs2 (upd_ty hst.ty _ _ ty3) hg2 (fun b' hb' => ⟨_, _, hk, hb'⟩)))
  have ev1 := eval_at h1
  have ev2 := eval_at h2
  unfold execOp
  simp only [hop, resolve, invoke, builtin, Sem.run_bind, Sem.run_pure, Result.andThen_ok, List.map_toArray, List.map_cons, List.map_nil, ev1, ev2, hr2]

theorem el_insert {c : Tc} {v : Tv} {bx : Nat} {w0 : World} {ops : Array Oper} {Q : Exit → Act → World → Prop} {kp T : Nat} {l : List Nat} {q j : Nat} {x : Value} {i : Nat} {o : Oper} {d : Option Nat} (ho : ops[i]? = some o) (hg : o.guard = none) (hd : o.dst = d) (hj : j ≤ l.length) (hn : l.length ≤ 10000) (hkT : kp ≠ T)
    (a : Act) (w : World) (K' : Nat → Option Ent) (b : Nat) (hE : ElSt c v bx w0 K' w) (hk : K' kp = some ⟨3, 1, l.length, x, ints l⟩) (hT : K' T = some ⟨3, 1, 1, .slice (some ⟨b, 0, none⟩) 1 1, [.int .i64 (q : Int)]⟩) (hrun : (execOp a.eval o).run Yba.prog w = .ok (.enter 48 #[x, .int .i64 (j : Int), .slice (some ⟨b, 0, none⟩) 1 1]) w)
    (Kc : Act → World → Prop) (hK : ∀ g cc w', Below c.base w w' → w.grownBy w' x.ownBlock → St c (upd K' kp ⟨3, 1, l.length + 1, .slice (some ⟨g, 0, none⟩) (l.length + 1) cc, ints (l.take j ++ q :: l.drop j)⟩) v w' → Kc (a.put d (.slice (some ⟨g, 0, none⟩) (l.length + 1) cc)) w') : wpOp Yba.prog ops Q i Kc a w := by
  refine wpOp_enter ho hg hd hrun ?_
  refine Calls.mono (insert_calls c K' v w hE.st hE.size kp T j q b 1 x l hk hT hkT hj hn) ?_
  rintro e w' ⟨g, cc, rfl, h1, h2, h3⟩
  exact ⟨_, rfl, hK g cc w' h1 h2 h3⟩

/-- The edge p -> q has come. -/
def Lk (O I O' I' : Nat → List Nat) (p q : Nat) : Prop := (∀ y z, z ∈ O' y ↔ z ∈ O y ∨ (y = p ∧ z = q)) ∧ (∀ y z, z ∈ I' y ↔ z ∈ I y ∨ (y = q ∧ z = p))

def LinkPost (c : Tc) (D : Nat → Option Ent) (v : Tv) (w : World) (J : List Nat) (O I : Nat → List Nat) (L : Nat → Int) (B m p q : Nat) (e : Ending) (w' : World) : Prop := e = .returned (.tuple #[]) ∧ Below c.base w w' ∧ ∃ K' v' O' I', St c K' v' w' ∧ v'.work = v.work ∧ Rw c K' v' D J O' I' L (B + 3) m ∧ Lk O I O' I' p q

set_option maxRecDepth 20000 in
set_option maxHeartbeats 6400000 in
theorem link_calls (c : Tc) (K D : Nat → Option Ent) (v : Tv) (w : World) (J : List Nat) (O I : Nat → List Nat) (L : Nat → Int) (B m p q : Nat) (h : St c K v w) (hR : Rw c K v D J O I L B m) (hb : c.base ≤ w.heap.size) (hB : B ≤ 9000) (hp2 : 2 ≤ p) (hpM : p < J.length + 2) (hq1 : 1 ≤ q) (hqM : q < J.length + 2) (hOM : ∀ y ∈ O p, y < J.length + 2) (hJn : (0 :: c.N :: J).Nodup) (hOI : q ∈ O p → p ∈ I q) :
    Calls Yba.prog 28 #[.pointer (some ⟨c.C, 0, none⟩), .int .i64 (p : Nat), .int .i64 (q : Nat)] w fun e w' => LinkPost c D v w J O I L B m p q e w' := by
  obtain ⟨gI, cI, hidv, _⟩ := h.sep.form hR.r1 |>.2 |>.resolve_left (by rintro ⟨_, h2⟩; simp at h2)
  have hids : v.ids = .slice (some ⟨gI, 0, none⟩) (J.length + 2) cI := hidv
  obtain ⟨vsO, eO, hO⟩ := hR.r2.ex
  obtain ⟨gO, cO, hOv, _⟩ := h.sep.form eO |>.2 |>.resolve_left (by rintro ⟨_, h2⟩; simp at h2)
  have hOv : v.out = .slice (some ⟨gO, 0, none⟩) (J.length + 2) cO := hOv
  have eO' : K 2 = some ⟨26, 1, J.length + 2, .slice (some ⟨gO, 0, none⟩) (J.length + 2) cO, vsO⟩ := by rw [eO, hOv]
  obtain ⟨x, hvp, hkp⟩ := hO p hpM
  obtain ⟨u, hu⟩ : ∃ u, (0 :: c.N :: J)[q]? = some u := ⟨_, List.getElem?_eq_getElem (by simp; omega)⟩
  have e1' : K 1 = some ⟨3, 1, J.length + 2, .slice (some ⟨gI, 0, none⟩) (J.length + 2) cI, ints (0 :: c.N :: J)⟩ := by rw [hR.r1, hids]
  have hA := h.alloc (.cells #[.pointer (some ⟨c.C, 0, none⟩)] 28)
  have hbx : Blk (w.alloc (.cells #[.pointer (some ⟨c.C, 0, none⟩)] 28)) w.heap.size #[.pointer (some ⟨c.C, 0, none⟩)] 28 := Blk.new _ _ _
  have hblA : Below c.base w (w.alloc (.cells #[.pointer (some ⟨c.C, 0, none⟩)] 28)) := (Below.refl _ _).alloc hb _
  have hszA : c.base ≤ (w.alloc (.cells #[.pointer (some ⟨c.C, 0, none⟩)] 28)).heap.size := by simp; omega
  have hpM' : (p : Int) < ((J.length : Int) + 2) := by omega
  have hqM' : (q : Int) < ((J.length : Int) + 2) := by omega
  have HR : Hid (Rw c K v D J O I L B m) := hR
  have HOM : Hid (∀ y ∈ O p, y < J.length + 2) := hOM
  have HO : Hid (∀ u, u < J.length + 2 → ∃ r, vsO[u]? = some r ∧ K (300 + u) = some ⟨3, 1, (O u).length, r, ints (O u)⟩) := hO
  have HOI : Hid (q ∈ O p → p ∈ I q) := hOI
  have HJN : Hid (0 :: c.N :: J).Nodup := hJn
  clear hR hOM hO hOI hJn hidv
  obtain ⟨xa, xc, rfl, _⟩ := h.sep.shape hkp
  go_enter Yba.func28, Yba.ntmps28
  go_upto_region 1 with fail
  generalize w.alloc (.cells #[.pointer (some ⟨c.C, 0, none⟩)] 28) = wA at hA hbx hblA hszA ⊢
  have hbxl : w.heap.size < wA.heap.size := hbx.lt
  generalize w.heap.size = bx at *
  have k0 : wA.cell? ⟨bx, 0, none⟩ = some (.pointer (some ⟨c.C, 0, none⟩)) := hbx.cell? 0
  have k10 : wA.cell? ⟨c.C, 10, none⟩ = some (.slice (some ⟨gO, 0, none⟩) (J.length + 2) cO) := by rw [← hOv]; exact hA.hC.cell? 10
  have k6 : wA.cell? ⟨c.C, 6, none⟩ = some (.slice (some ⟨gI, 0, none⟩) (J.length + 2) cI) := by rw [← hids]; exact hA.hC.cell? 6
  have kp := hA.sep.cell eO' hvp
  have kq := hA.sep.cell e1' (ints_at hu)
  go_cut [6, 7] from 8 to 27 (fun iv fv wc => ∃ (i : Nat) (f : Bool) (n : Nat), iv = .int .i64 i ∧ fv = .bool f ∧ i ≤ (O p).length ∧ (f = true → ∃ y u', (O p)[i]? = some y ∧ (0 :: c.N :: J)[y]? = some u' ∧ (u' : Int) = (u : Int)) ∧ wc = wA.drewN n)
  case first =>
    refine wp_region_ghost2 (by kernel_rfl) (by kernel_rfl) (S := Option (Nat × Bool)) (fun i => ([some 10, some 11, some 12, some 13, some 14, some 15, some 16, some 17, some 18, some 19, some 20, some 21, some 22, some 23, some 24, some 25, some 9, some 26, some 27, some 6, some 7] : List (Option Nat)).getD i none) 6 27 (fun _ w => ∃ n, w = wA.drewN n) (fun k s x => (∀ z, ([some (.pointer (some ⟨c.C, 0, none⟩)), some (.pointer (some ⟨c.C, 0, none⟩)), some (.pointer (some ⟨c.C, 10, none⟩)), some (.slice (some ⟨gO, 0, none⟩) (J.length + 2) cO), some (.int .i64 (p : Int)), some (.pointer (some ⟨gO, p, none⟩)), some (.slice xa (O p).length xc), some (.pointer (some ⟨c.C, 0, none⟩)), some (.pointer (some ⟨c.C, 0, none⟩)), some (.pointer (some ⟨c.C, 6, none⟩)), some (.slice (some ⟨gI, 0, none⟩) (J.length + 2) cI), some (.int .i64 (q : Int)), some (.pointer (some ⟨gI, q, none⟩)), some (.int .i64 (u : Int)), some (.func (.func 47) #[] #[.pointer (some ⟨bx, 0, none⟩)]), none, none, none, none, none, none] : List (Option Value)).getD k none = some z → x = z) ∧ (15 ≤ k → ∃ i f, s = some (i, f) ∧ i ≤ (O p).length ∧ (f = true → ∃ y u', (O p)[i]? = some y ∧ (0 :: c.N :: J)[y]? = some u' ∧ (u' : Int) = (u : Int)) ∧ x = if k = 15 ∨ k = 16 then .tuple #[.int .i64 (i : Int), .bool f] else if k = 17 ∨ k = 19 then .int .i64 (i : Int) else .bool f)) (fun k s => k = 15 → s = none) none ⟨1, rfl⟩ (fun _ _ _ => rfl) ?hslot ?hinj ?hstep ?hend
    case hslot => intro i s hi; have := allL (p := fun s => decide (6 ≤ s ∧ s ≤ 27)) (by decide) hi; simp at this; exact ⟨this.1, this.2, by simp; omega⟩
    case hinj => intro i j _ _ hij s h1 h2; exact hij (uniqL (by decide) h1 h2)
    case hstep =>
      intro i o ho
      match i, ho with
      | 0, ho =>
        simp at ho; subst ho; refine ⟨rfl, rfl, ?_⟩; rintro s w a ⟨n, rfl⟩ hH hF haf Kc hK
        have hP : Pre (fun k => ([some (.pointer (some ⟨c.C, 0, none⟩)), some (.pointer (some ⟨c.C, 0, none⟩)), some (.pointer (some ⟨c.C, 10, none⟩)), some (.slice (some ⟨gO, 0, none⟩) (J.length + 2) cO), some (.int .i64 (p : Int)), some (.pointer (some ⟨gO, p, none⟩)), some (.slice xa (O p).length xc), some (.pointer (some ⟨c.C, 0, none⟩)), some (.pointer (some ⟨c.C, 0, none⟩)), some (.pointer (some ⟨c.C, 6, none⟩)), some (.slice (some ⟨gI, 0, none⟩) (J.length + 2) cI), some (.int .i64 (q : Int)), some (.pointer (some ⟨gI, q, none⟩)), some (.int .i64 (u : Int)), some (.func (.func 47) #[] #[.pointer (some ⟨bx, 0, none⟩)]), none, none, none, none, none, none] : List (Option Value)).getD k none) (fun i => ([some 10, some 11, some 12, some 13, some 14, some 15, some 16, some 17, some 18, some 19, some 20, some 21, some 22, some 23, some 24, some 25, some 9, some 26, some 27, some 6, some 7] : List (Option Nat)).getD i none) _ a := fun e he hb z t hz ht => by obtain ⟨y, h1, h2⟩ := haf e he hb; rw [h1 t ht, h2.1 z hz]
        refine wpOp_val rfl rfl rfl (by have hx : a.tmps[3]? = some (.pointer (some ⟨bx, 0, none⟩)) := (hF.2.2 3 (.inl (by decide))).trans rfl; have hc := k0; simp [execOp, hx, hc, go_sem]) (hK _ _ s ⟨n, rfl⟩ ⟨fun z hz => Option.some.inj hz, fun h => absurd h (by decide)⟩ (fun _ _ _ h => h) (fun _ _ _ h => h))
      | 1, ho =>
        simp at ho; subst ho; refine ⟨rfl, rfl, ?_⟩; rintro s w a ⟨n, rfl⟩ hH hF haf Kc hK
        have hP : Pre (fun k => ([some (.pointer (some ⟨c.C, 0, none⟩)), some (.pointer (some ⟨c.C, 0, none⟩)), some (.pointer (some ⟨c.C, 10, none⟩)), some (.slice (some ⟨gO, 0, none⟩) (J.length + 2) cO), some (.int .i64 (p : Int)), some (.pointer (some ⟨gO, p, none⟩)), some (.slice xa (O p).length xc), some (.pointer (some ⟨c.C, 0, none⟩)), some (.pointer (some ⟨c.C, 0, none⟩)), some (.pointer (some ⟨c.C, 6, none⟩)), some (.slice (some ⟨gI, 0, none⟩) (J.length + 2) cI), some (.int .i64 (q : Int)), some (.pointer (some ⟨gI, q, none⟩)), some (.int .i64 (u : Int)), some (.func (.func 47) #[] #[.pointer (some ⟨bx, 0, none⟩)]), none, none, none, none, none, none] : List (Option Value)).getD k none) (fun i => ([some 10, some 11, some 12, some 13, some 14, some 15, some 16, some 17, some 18, some 19, some 20, some 21, some 22, some 23, some 24, some 25, some 9, some 26, some 27, some 6, some 7] : List (Option Nat)).getD i none) _ a := fun e he hb z t hz ht => by obtain ⟨y, h1, h2⟩ := haf e he hb; rw [h1 t ht, h2.1 z hz]
        refine wpOp_val rfl rfl rfl (by have hx := hP ⟨0, .data⟩ (by simp) rfl _ _ rfl rfl; simp [execOp, hx, go_sem]) (hK _ _ s ⟨n, rfl⟩ ⟨fun z hz => Option.some.inj hz, fun h => absurd h (by decide)⟩ (fun _ _ _ h => h) (fun _ _ _ h => h))
      | 2, ho =>
        simp at ho; subst ho; refine ⟨rfl, rfl, ?_⟩; rintro s w a ⟨n, rfl⟩ hH hF haf Kc hK
        have hP : Pre (fun k => ([some (.pointer (some ⟨c.C, 0, none⟩)), some (.pointer (some ⟨c.C, 0, none⟩)), some (.pointer (some ⟨c.C, 10, none⟩)), some (.slice (some ⟨gO, 0, none⟩) (J.length + 2) cO), some (.int .i64 (p : Int)), some (.pointer (some ⟨gO, p, none⟩)), some (.slice xa (O p).length xc), some (.pointer (some ⟨c.C, 0, none⟩)), some (.pointer (some ⟨c.C, 0, none⟩)), some (.pointer (some ⟨c.C, 6, none⟩)), some (.slice (some ⟨gI, 0, none⟩) (J.length + 2) cI), some (.int .i64 (q : Int)), some (.pointer (some ⟨gI, q, none⟩)), some (.int .i64 (u : Int)), some (.func (.func 47) #[] #[.pointer (some ⟨bx, 0, none⟩)]), none, none, none, none, none, none] : List (Option Value)).getD k none) (fun i => ([some 10, some 11, some 12, some 13, some 14, some 15, some 16, some 17, some 18, some 19, some 20, some 21, some 22, some 23, some 24, some 25, some 9, some 26, some 27, some 6, some 7] : List (Option Nat)).getD i none) _ a := fun e he hb z t hz ht => by obtain ⟨y, h1, h2⟩ := haf e he hb; rw [h1 t ht, h2.1 z hz]
        refine wpOp_val rfl rfl rfl (by have hx := hP ⟨1, .data⟩ (by simp) rfl _ _ rfl rfl; simp [execOp, hx, go_sem]) (hK _ _ s ⟨n, rfl⟩ ⟨fun z hz => Option.some.inj hz, fun h => absurd h (by decide)⟩ (fun _ _ _ h => h) (fun _ _ _ h => h))
      | 3, ho =>
        simp at ho; subst ho; refine ⟨rfl, rfl, ?_⟩; rintro s w a ⟨n, rfl⟩ hH hF haf Kc hK
        have hP : Pre (fun k => ([some (.pointer (some ⟨c.C, 0, none⟩)), some (.pointer (some ⟨c.C, 0, none⟩)), some (.pointer (some ⟨c.C, 10, none⟩)), some (.slice (some ⟨gO, 0, none⟩) (J.length + 2) cO), some (.int .i64 (p : Int)), some (.pointer (some ⟨gO, p, none⟩)), some (.slice xa (O p).length xc), some (.pointer (some ⟨c.C, 0, none⟩)), some (.pointer (some ⟨c.C, 0, none⟩)), some (.pointer (some ⟨c.C, 6, none⟩)), some (.slice (some ⟨gI, 0, none⟩) (J.length + 2) cI), some (.int .i64 (q : Int)), some (.pointer (some ⟨gI, q, none⟩)), some (.int .i64 (u : Int)), some (.func (.func 47) #[] #[.pointer (some ⟨bx, 0, none⟩)]), none, none, none, none, none, none] : List (Option Value)).getD k none) (fun i => ([some 10, some 11, some 12, some 13, some 14, some 15, some 16, some 17, some 18, some 19, some 20, some 21, some 22, some 23, some 24, some 25, some 9, some 26, some 27, some 6, some 7] : List (Option Nat)).getD i none) _ a := fun e he hb z t hz ht => by obtain ⟨y, h1, h2⟩ := haf e he hb; rw [h1 t ht, h2.1 z hz]
        refine wpOp_val rfl rfl rfl (by have hx := hP ⟨2, .data⟩ (by simp) rfl _ _ rfl rfl; have hc := k10; simp [execOp, hx, hc, go_sem]) (hK _ _ s ⟨n, rfl⟩ ⟨fun z hz => Option.some.inj hz, fun h => absurd h (by decide)⟩ (fun _ _ _ h => h) (fun _ _ _ h => h))
      | 4, ho =>
        simp at ho; subst ho; refine ⟨rfl, rfl, ?_⟩; rintro s w a ⟨n, rfl⟩ hH hF haf Kc hK
        have hP : Pre (fun k => ([some (.pointer (some ⟨c.C, 0, none⟩)), some (.pointer (some ⟨c.C, 0, none⟩)), some (.pointer (some ⟨c.C, 10, none⟩)), some (.slice (some ⟨gO, 0, none⟩) (J.length + 2) cO), some (.int .i64 (p : Int)), some (.pointer (some ⟨gO, p, none⟩)), some (.slice xa (O p).length xc), some (.pointer (some ⟨c.C, 0, none⟩)), some (.pointer (some ⟨c.C, 0, none⟩)), some (.pointer (some ⟨c.C, 6, none⟩)), some (.slice (some ⟨gI, 0, none⟩) (J.length + 2) cI), some (.int .i64 (q : Int)), some (.pointer (some ⟨gI, q, none⟩)), some (.int .i64 (u : Int)), some (.func (.func 47) #[] #[.pointer (some ⟨bx, 0, none⟩)]), none, none, none, none, none, none] : List (Option Value)).getD k none) (fun i => ([some 10, some 11, some 12, some 13, some 14, some 15, some 16, some 17, some 18, some 19, some 20, some 21, some 22, some 23, some 24, some 25, some 9, some 26, some 27, some 6, some 7] : List (Option Nat)).getD i none) _ a := fun e he hb z t hz ht => by obtain ⟨y, h1, h2⟩ := haf e he hb; rw [h1 t ht, h2.1 z hz]
        refine wpOp_val rfl rfl rfl (by have hx : a.tmps[1]? = some (.int .i64 (p : Int)) := (hF.2.2 1 (.inl (by decide))).trans rfl; simp [execOp, hx, go_sem]) (hK _ _ s ⟨n, rfl⟩ ⟨fun z hz => Option.some.inj hz, fun h => absurd h (by decide)⟩ (fun _ _ _ h => h) (fun _ _ _ h => h))
      | 5, ho =>
        simp at ho; subst ho; refine ⟨rfl, rfl, ?_⟩; rintro s w a ⟨n, rfl⟩ hH hF haf Kc hK
        have hP : Pre (fun k => ([some (.pointer (some ⟨c.C, 0, none⟩)), some (.pointer (some ⟨c.C, 0, none⟩)), some (.pointer (some ⟨c.C, 10, none⟩)), some (.slice (some ⟨gO, 0, none⟩) (J.length + 2) cO), some (.int .i64 (p : Int)), some (.pointer (some ⟨gO, p, none⟩)), some (.slice xa (O p).length xc), some (.pointer (some ⟨c.C, 0, none⟩)), some (.pointer (some ⟨c.C, 0, none⟩)), some (.pointer (some ⟨c.C, 6, none⟩)), some (.slice (some ⟨gI, 0, none⟩) (J.length + 2) cI), some (.int .i64 (q : Int)), some (.pointer (some ⟨gI, q, none⟩)), some (.int .i64 (u : Int)), some (.func (.func 47) #[] #[.pointer (some ⟨bx, 0, none⟩)]), none, none, none, none, none, none] : List (Option Value)).getD k none) (fun i => ([some 10, some 11, some 12, some 13, some 14, some 15, some 16, some 17, some 18, some 19, some 20, some 21, some 22, some 23, some 24, some 25, some 9, some 26, some 27, some 6, some 7] : List (Option Nat)).getD i none) _ a := fun e he hb z t hz ht => by obtain ⟨y, h1, h2⟩ := haf e he hb; rw [h1 t ht, h2.1 z hz]
        refine wpOp_val rfl rfl rfl (by have hx := hP ⟨3, .data⟩ (by simp) rfl _ _ rfl rfl; have hy := hP ⟨4, .data⟩ (by simp) rfl _ _ rfl rfl; simp [execOp, hx, hy, go_sem, hpM']) (hK _ _ s ⟨n, rfl⟩ ⟨fun z hz => Option.some.inj hz, fun h => absurd h (by decide)⟩ (fun _ _ _ h => h) (fun _ _ _ h => h))
      | 6, ho =>
        simp at ho; subst ho; refine ⟨rfl, rfl, ?_⟩; rintro s w a ⟨n, rfl⟩ hH hF haf Kc hK
        have hP : Pre (fun k => ([some (.pointer (some ⟨c.C, 0, none⟩)), some (.pointer (some ⟨c.C, 0, none⟩)), some (.pointer (some ⟨c.C, 10, none⟩)), some (.slice (some ⟨gO, 0, none⟩) (J.length + 2) cO), some (.int .i64 (p : Int)), some (.pointer (some ⟨gO, p, none⟩)), some (.slice xa (O p).length xc), some (.pointer (some ⟨c.C, 0, none⟩)), some (.pointer (some ⟨c.C, 0, none⟩)), some (.pointer (some ⟨c.C, 6, none⟩)), some (.slice (some ⟨gI, 0, none⟩) (J.length + 2) cI), some (.int .i64 (q : Int)), some (.pointer (some ⟨gI, q, none⟩)), some (.int .i64 (u : Int)), some (.func (.func 47) #[] #[.pointer (some ⟨bx, 0, none⟩)]), none, none, none, none, none, none] : List (Option Value)).getD k none) (fun i => ([some 10, some 11, some 12, some 13, some 14, some 15, some 16, some 17, some 18, some 19, some 20, some 21, some 22, some 23, some 24, some 25, some 9, some 26, some 27, some 6, some 7] : List (Option Nat)).getD i none) _ a := fun e he hb z t hz ht => by obtain ⟨y, h1, h2⟩ := haf e he hb; rw [h1 t ht, h2.1 z hz]
        refine wpOp_val rfl rfl rfl (by have hx := hP ⟨5, .data⟩ (by simp) rfl _ _ rfl rfl; have hc := kp; simp [execOp, hx, hc, go_sem]) (hK _ _ s ⟨n, rfl⟩ ⟨fun z hz => Option.some.inj hz, fun h => absurd h (by decide)⟩ (fun _ _ _ h => h) (fun _ _ _ h => h))
      | 7, ho =>
        simp at ho; subst ho; refine ⟨rfl, rfl, ?_⟩; rintro s w a ⟨n, rfl⟩ hH hF haf Kc hK
        have hP : Pre (fun k => ([some (.pointer (some ⟨c.C, 0, none⟩)), some (.pointer (some ⟨c.C, 0, none⟩)), some (.pointer (some ⟨c.C, 10, none⟩)), some (.slice (some ⟨gO, 0, none⟩) (J.length + 2) cO), some (.int .i64 (p : Int)), some (.pointer (some ⟨gO, p, none⟩)), some (.slice xa (O p).length xc), some (.pointer (some ⟨c.C, 0, none⟩)), some (.pointer (some ⟨c.C, 0, none⟩)), some (.pointer (some ⟨c.C, 6, none⟩)), some (.slice (some ⟨gI, 0, none⟩) (J.length + 2) cI), some (.int .i64 (q : Int)), some (.pointer (some ⟨gI, q, none⟩)), some (.int .i64 (u : Int)), some (.func (.func 47) #[] #[.pointer (some ⟨bx, 0, none⟩)]), none, none, none, none, none, none] : List (Option Value)).getD k none) (fun i => ([some 10, some 11, some 12, some 13, some 14, some 15, some 16, some 17, some 18, some 19, some 20, some 21, some 22, some 23, some 24, some 25, some 9, some 26, some 27, some 6, some 7] : List (Option Nat)).getD i none) _ a := fun e he hb z t hz ht => by obtain ⟨y, h1, h2⟩ := haf e he hb; rw [h1 t ht, h2.1 z hz]
        refine wpOp_val rfl rfl rfl (by have hx : a.tmps[3]? = some (.pointer (some ⟨bx, 0, none⟩)) := (hF.2.2 3 (.inl (by decide))).trans rfl; have hc := k0; simp [execOp, hx, hc, go_sem]) (hK _ _ s ⟨n, rfl⟩ ⟨fun z hz => Option.some.inj hz, fun h => absurd h (by decide)⟩ (fun _ _ _ h => h) (fun _ _ _ h => h))
      | 8, ho =>
        simp at ho; subst ho; refine ⟨rfl, rfl, ?_⟩; rintro s w a ⟨n, rfl⟩ hH hF haf Kc hK
        have hP : Pre (fun k => ([some (.pointer (some ⟨c.C, 0, none⟩)), some (.pointer (some ⟨c.C, 0, none⟩)), some (.pointer (some ⟨c.C, 10, none⟩)), some (.slice (some ⟨gO, 0, none⟩) (J.length + 2) cO), some (.int .i64 (p : Int)), some (.pointer (some ⟨gO, p, none⟩)), some (.slice xa (O p).length xc), some (.pointer (some ⟨c.C, 0, none⟩)), some (.pointer (some ⟨c.C, 0, none⟩)), some (.pointer (some ⟨c.C, 6, none⟩)), some (.slice (some ⟨gI, 0, none⟩) (J.length + 2) cI), some (.int .i64 (q : Int)), some (.pointer (some ⟨gI, q, none⟩)), some (.int .i64 (u : Int)), some (.func (.func 47) #[] #[.pointer (some ⟨bx, 0, none⟩)]), none, none, none, none, none, none] : List (Option Value)).getD k none) (fun i => ([some 10, some 11, some 12, some 13, some 14, some 15, some 16, some 17, some 18, some 19, some 20, some 21, some 22, some 23, some 24, some 25, some 9, some 26, some 27, some 6, some 7] : List (Option Nat)).getD i none) _ a := fun e he hb z t hz ht => by obtain ⟨y, h1, h2⟩ := haf e he hb; rw [h1 t ht, h2.1 z hz]
        refine wpOp_val rfl rfl rfl (by have hx := hP ⟨7, .data⟩ (by simp) rfl _ _ rfl rfl; simp [execOp, hx, go_sem]) (hK _ _ s ⟨n, rfl⟩ ⟨fun z hz => Option.some.inj hz, fun h => absurd h (by decide)⟩ (fun _ _ _ h => h) (fun _ _ _ h => h))
      | 9, ho =>
        simp at ho; subst ho; refine ⟨rfl, rfl, ?_⟩; rintro s w a ⟨n, rfl⟩ hH hF haf Kc hK
        have hP : Pre (fun k => ([some (.pointer (some ⟨c.C, 0, none⟩)), some (.pointer (some ⟨c.C, 0, none⟩)), some (.pointer (some ⟨c.C, 10, none⟩)), some (.slice (some ⟨gO, 0, none⟩) (J.length + 2) cO), some (.int .i64 (p : Int)), some (.pointer (some ⟨gO, p, none⟩)), some (.slice xa (O p).length xc), some (.pointer (some ⟨c.C, 0, none⟩)), some (.pointer (some ⟨c.C, 0, none⟩)), some (.pointer (some ⟨c.C, 6, none⟩)), some (.slice (some ⟨gI, 0, none⟩) (J.length + 2) cI), some (.int .i64 (q : Int)), some (.pointer (some ⟨gI, q, none⟩)), some (.int .i64 (u : Int)), some (.func (.func 47) #[] #[.pointer (some ⟨bx, 0, none⟩)]), none, none, none, none, none, none] : List (Option Value)).getD k none) (fun i => ([some 10, some 11, some 12, some 13, some 14, some 15, some 16, some 17, some 18, some 19, some 20, some 21, some 22, some 23, some 24, some 25, some 9, some 26, some 27, some 6, some 7] : List (Option Nat)).getD i none) _ a := fun e he hb z t hz ht => by obtain ⟨y, h1, h2⟩ := haf e he hb; rw [h1 t ht, h2.1 z hz]
        refine wpOp_val rfl rfl rfl (by have hx := hP ⟨8, .data⟩ (by simp) rfl _ _ rfl rfl; simp [execOp, hx, go_sem]) (hK _ _ s ⟨n, rfl⟩ ⟨fun z hz => Option.some.inj hz, fun h => absurd h (by decide)⟩ (fun _ _ _ h => h) (fun _ _ _ h => h))
      | 10, ho =>
        simp at ho; subst ho; refine ⟨rfl, rfl, ?_⟩; rintro s w a ⟨n, rfl⟩ hH hF haf Kc hK
        have hP : Pre (fun k => ([some (.pointer (some ⟨c.C, 0, none⟩)), some (.pointer (some ⟨c.C, 0, none⟩)), some (.pointer (some ⟨c.C, 10, none⟩)), some (.slice (some ⟨gO, 0, none⟩) (J.length + 2) cO), some (.int .i64 (p : Int)), some (.pointer (some ⟨gO, p, none⟩)), some (.slice xa (O p).length xc), some (.pointer (some ⟨c.C, 0, none⟩)), some (.pointer (some ⟨c.C, 0, none⟩)), some (.pointer (some ⟨c.C, 6, none⟩)), some (.slice (some ⟨gI, 0, none⟩) (J.length + 2) cI), some (.int .i64 (q : Int)), some (.pointer (some ⟨gI, q, none⟩)), some (.int .i64 (u : Int)), some (.func (.func 47) #[] #[.pointer (some ⟨bx, 0, none⟩)]), none, none, none, none, none, none] : List (Option Value)).getD k none) (fun i => ([some 10, some 11, some 12, some 13, some 14, some 15, some 16, some 17, some 18, some 19, some 20, some 21, some 22, some 23, some 24, some 25, some 9, some 26, some 27, some 6, some 7] : List (Option Nat)).getD i none) _ a := fun e he hb z t hz ht => by obtain ⟨y, h1, h2⟩ := haf e he hb; rw [h1 t ht, h2.1 z hz]
        refine wpOp_val rfl rfl rfl (by have hx := hP ⟨9, .data⟩ (by simp) rfl _ _ rfl rfl; have hc := k6; simp [execOp, hx, hc, go_sem]) (hK _ _ s ⟨n, rfl⟩ ⟨fun z hz => Option.some.inj hz, fun h => absurd h (by decide)⟩ (fun _ _ _ h => h) (fun _ _ _ h => h))
      | 11, ho =>
        simp at ho; subst ho; refine ⟨rfl, rfl, ?_⟩; rintro s w a ⟨n, rfl⟩ hH hF haf Kc hK
        have hP : Pre (fun k => ([some (.pointer (some ⟨c.C, 0, none⟩)), some (.pointer (some ⟨c.C, 0, none⟩)), some (.pointer (some ⟨c.C, 10, none⟩)), some (.slice (some ⟨gO, 0, none⟩) (J.length + 2) cO), some (.int .i64 (p : Int)), some (.pointer (some ⟨gO, p, none⟩)), some (.slice xa (O p).length xc), some (.pointer (some ⟨c.C, 0, none⟩)), some (.pointer (some ⟨c.C, 0, none⟩)), some (.pointer (some ⟨c.C, 6, none⟩)), some (.slice (some ⟨gI, 0, none⟩) (J.length + 2) cI), some (.int .i64 (q : Int)), some (.pointer (some ⟨gI, q, none⟩)), some (.int .i64 (u : Int)), some (.func (.func 47) #[] #[.pointer (some ⟨bx, 0, none⟩)]), none, none, none, none, none, none] : List (Option Value)).getD k none) (fun i => ([some 10, some 11, some 12, some 13, some 14, some 15, some 16, some 17, some 18, some 19, some 20, some 21, some 22, some 23, some 24, some 25, some 9, some 26, some 27, some 6, some 7] : List (Option Nat)).getD i none) _ a := fun e he hb z t hz ht => by obtain ⟨y, h1, h2⟩ := haf e he hb; rw [h1 t ht, h2.1 z hz]
        refine wpOp_val rfl rfl rfl (by have hx : a.tmps[2]? = some (.int .i64 (q : Int)) := (hF.2.2 2 (.inl (by decide))).trans rfl; simp [execOp, hx, go_sem]) (hK _ _ s ⟨n, rfl⟩ ⟨fun z hz => Option.some.inj hz, fun h => absurd h (by decide)⟩ (fun _ _ _ h => h) (fun _ _ _ h => h))
      | 12, ho =>
        simp at ho; subst ho; refine ⟨rfl, rfl, ?_⟩; rintro s w a ⟨n, rfl⟩ hH hF haf Kc hK
        have hP : Pre (fun k => ([some (.pointer (some ⟨c.C, 0, none⟩)), some (.pointer (some ⟨c.C, 0, none⟩)), some (.pointer (some ⟨c.C, 10, none⟩)), some (.slice (some ⟨gO, 0, none⟩) (J.length + 2) cO), some (.int .i64 (p : Int)), some (.pointer (some ⟨gO, p, none⟩)), some (.slice xa (O p).length xc), some (.pointer (some ⟨c.C, 0, none⟩)), some (.pointer (some ⟨c.C, 0, none⟩)), some (.pointer (some ⟨c.C, 6, none⟩)), some (.slice (some ⟨gI, 0, none⟩) (J.length + 2) cI), some (.int .i64 (q : Int)), some (.pointer (some ⟨gI, q, none⟩)), some (.int .i64 (u : Int)), some (.func (.func 47) #[] #[.pointer (some ⟨bx, 0, none⟩)]), none, none, none, none, none, none] : List (Option Value)).getD k none) (fun i => ([some 10, some 11, some 12, some 13, some 14, some 15, some 16, some 17, some 18, some 19, some 20, some 21, some 22, some 23, some 24, some 25, some 9, some 26, some 27, some 6, some 7] : List (Option Nat)).getD i none) _ a := fun e he hb z t hz ht => by obtain ⟨y, h1, h2⟩ := haf e he hb; rw [h1 t ht, h2.1 z hz]
        refine wpOp_val rfl rfl rfl (by have hx := hP ⟨10, .data⟩ (by simp) rfl _ _ rfl rfl; have hy := hP ⟨11, .data⟩ (by simp) rfl _ _ rfl rfl; simp [execOp, hx, hy, go_sem, hqM']) (hK _ _ s ⟨n, rfl⟩ ⟨fun z hz => Option.some.inj hz, fun h => absurd h (by decide)⟩ (fun _ _ _ h => h) (fun _ _ _ h => h))
      | 13, ho =>
        simp at ho; subst ho; refine ⟨rfl, rfl, ?_⟩; rintro s w a ⟨n, rfl⟩ hH hF haf Kc hK
        have hP : Pre (fun k => ([some (.pointer (some ⟨c.C, 0, none⟩)), some (.pointer (some ⟨c.C, 0, none⟩)), some (.pointer (some ⟨c.C, 10, none⟩)), some (.slice (some ⟨gO, 0, none⟩) (J.length + 2) cO), some (.int .i64 (p : Int)), some (.pointer (some ⟨gO, p, none⟩)), some (.slice xa (O p).length xc), some (.pointer (some ⟨c.C, 0, none⟩)), some (.pointer (some ⟨c.C, 0, none⟩)), some (.pointer (some ⟨c.C, 6, none⟩)), some (.slice (some ⟨gI, 0, none⟩) (J.length + 2) cI), some (.int .i64 (q : Int)), some (.pointer (some ⟨gI, q, none⟩)), some (.int .i64 (u : Int)), some (.func (.func 47) #[] #[.pointer (some ⟨bx, 0, none⟩)]), none, none, none, none, none, none] : List (Option Value)).getD k none) (fun i => ([some 10, some 11, some 12, some 13, some 14, some 15, some 16, some 17, some 18, some 19, some 20, some 21, some 22, some 23, some 24, some 25, some 9, some 26, some 27, some 6, some 7] : List (Option Nat)).getD i none) _ a := fun e he hb z t hz ht => by obtain ⟨y, h1, h2⟩ := haf e he hb; rw [h1 t ht, h2.1 z hz]
        refine wpOp_val rfl rfl rfl (by have hx := hP ⟨12, .data⟩ (by simp) rfl _ _ rfl rfl; have hc := kq; simp [execOp, hx, hc, go_sem]) (hK _ _ s ⟨n, rfl⟩ ⟨fun z hz => Option.some.inj hz, fun h => absurd h (by decide)⟩ (fun _ _ _ h => h) (fun _ _ _ h => h))
      | 14, ho =>
        simp at ho; subst ho; refine ⟨rfl, rfl, ?_⟩; rintro s w a ⟨n, rfl⟩ hH hF haf Kc hK
        have hP : Pre (fun k => ([some (.pointer (some ⟨c.C, 0, none⟩)), some (.pointer (some ⟨c.C, 0, none⟩)), some (.pointer (some ⟨c.C, 10, none⟩)), some (.slice (some ⟨gO, 0, none⟩) (J.length + 2) cO), some (.int .i64 (p : Int)), some (.pointer (some ⟨gO, p, none⟩)), some (.slice xa (O p).length xc), some (.pointer (some ⟨c.C, 0, none⟩)), some (.pointer (some ⟨c.C, 0, none⟩)), some (.pointer (some ⟨c.C, 6, none⟩)), some (.slice (some ⟨gI, 0, none⟩) (J.length + 2) cI), some (.int .i64 (q : Int)), some (.pointer (some ⟨gI, q, none⟩)), some (.int .i64 (u : Int)), some (.func (.func 47) #[] #[.pointer (some ⟨bx, 0, none⟩)]), none, none, none, none, none, none] : List (Option Value)).getD k none) (fun i => ([some 10, some 11, some 12, some 13, some 14, some 15, some 16, some 17, some 18, some 19, some 20, some 21, some 22, some 23, some 24, some 25, some 9, some 26, some 27, some 6, some 7] : List (Option Nat)).getD i none) _ a := fun e he hb z t hz ht => by obtain ⟨y, h1, h2⟩ := haf e he hb; rw [h1 t ht, h2.1 z hz]
        refine wpOp_val rfl rfl rfl (by have hx : a.tmps[3]? = some (.pointer (some ⟨bx, 0, none⟩)) := (hF.2.2 3 (.inl (by decide))).trans rfl; simp [execOp, hx, go_sem]) (hK _ _ s ⟨n, rfl⟩ ⟨fun z hz => Option.some.inj hz, fun h => absurd h (by decide)⟩ (fun _ _ _ h => h) (fun _ _ _ h => h))
      | 15, ho =>
        simp at ho; subst ho; refine ⟨rfl, rfl, ?_⟩; rintro s w a ⟨n, rfl⟩ hH hF haf Kc hK
        have hs : s = none := hH rfl
        subst hs
        have hP : Pre (fun k => ([some (.pointer (some ⟨c.C, 0, none⟩)), some (.pointer (some ⟨c.C, 0, none⟩)), some (.pointer (some ⟨c.C, 10, none⟩)), some (.slice (some ⟨gO, 0, none⟩) (J.length + 2) cO), some (.int .i64 (p : Int)), some (.pointer (some ⟨gO, p, none⟩)), some (.slice xa (O p).length xc), some (.pointer (some ⟨c.C, 0, none⟩)), some (.pointer (some ⟨c.C, 0, none⟩)), some (.pointer (some ⟨c.C, 6, none⟩)), some (.slice (some ⟨gI, 0, none⟩) (J.length + 2) cI), some (.int .i64 (q : Int)), some (.pointer (some ⟨gI, q, none⟩)), some (.int .i64 (u : Int)), some (.func (.func 47) #[] #[.pointer (some ⟨bx, 0, none⟩)]), none, none, none, none, none, none] : List (Option Value)).getD k none) (fun i => ([some 10, some 11, some 12, some 13, some 14, some 15, some 16, some 17, some 18, some 19, some 20, some 21, some 22, some 23, some 24, some 25, some 9, some 26, some 27, some 6, some 7] : List (Option Nat)).getD i none) _ a := fun e he hb z t hz ht => by obtain ⟨y, h1, h2⟩ := haf e he hb; rw [h1 t ht, h2.1 z hz]
        have h6 := hP ⟨6, .data⟩ (by simp) rfl _ _ rfl rfl
        have h13 := hP ⟨13, .data⟩ (by simp) rfl _ _ rfl rfl
        have h14 := hP ⟨14, .data⟩ (by simp) rfl _ _ rfl rfl
        refine wpOp_enter (f := 46) (args := #[.slice xa (O p).length xc, .int .i64 (u : Int), .func (.func 47) #[] #[.pointer (some ⟨bx, 0, none⟩)]]) rfl rfl rfl (by simp [execOp, h6, h13, h14, go_sem]) ?_
        refine Calls.mono (bsearch_calls c K v _ (hA.drewN n) bx _ gI _ cI _ _ (O p) (0 :: c.N :: J) k0 hkp (by have := HR.out.bO p; omega) hids HR.out.r1 (by simp) HOM.out) ?_
        rintro e w1 ⟨i, f, rfl, hi, hf, n1, rfl⟩
        refine ⟨_, rfl, hK _ _ (some (i, f)) ⟨n + n1, by simp [World.drewN, Nat.add_assoc]⟩ ⟨fun z hz => (by cases hz), fun _ => ⟨i, f, rfl, hi, hf, rfl⟩⟩ ?_ (fun k hk _ _ e => absurd e hk)⟩
        rintro k x hk ⟨p1, p2⟩
        refine ⟨p1, fun h => ?_⟩
        obtain ⟨i', f', e, _⟩ := p2 h
        cases e
      | 16, ho =>
        simp at ho; subst ho; refine ⟨rfl, rfl, ?_⟩; rintro s w a ⟨n, rfl⟩ hH hF haf Kc hK
        obtain ⟨y, h1, h2⟩ := haf ⟨15, .data⟩ (by simp) rfl
        obtain ⟨i, f, hs, hi, hf, rfl⟩ := h2.2 (by decide)
        subst hs
        have hx := h1 _ rfl
        simp at hx
        refine wpOp_val rfl rfl rfl (by simp [execOp, hx, go_sem]) (hK _ _ (some (i, f)) ⟨n, rfl⟩ ⟨fun z hz => (by cases hz), fun _ => ⟨i, f, rfl, hi, hf, rfl⟩⟩ (fun _ _ _ h => h) (fun _ _ _ h => h))
      | 17, ho =>
        simp at ho; subst ho; refine ⟨rfl, rfl, ?_⟩; rintro s w a ⟨n, rfl⟩ hH hF haf Kc hK
        obtain ⟨y, h1, h2⟩ := haf ⟨16, .data⟩ (by simp) rfl
        obtain ⟨i, f, hs, hi, hf, rfl⟩ := h2.2 (by decide)
        subst hs
        have hx := h1 _ rfl
        simp at hx
        refine wpOp_val rfl rfl rfl (by simp [execOp, hx, go_sem]) (hK _ _ (some (i, f)) ⟨n, rfl⟩ ⟨fun z hz => (by cases hz), fun _ => ⟨i, f, rfl, hi, hf, rfl⟩⟩ (fun _ _ _ h => h) (fun _ _ _ h => h))
      | 18, ho =>
        simp at ho; subst ho; refine ⟨rfl, rfl, ?_⟩; rintro s w a ⟨n, rfl⟩ hH hF haf Kc hK
        obtain ⟨y, h1, h2⟩ := haf ⟨16, .data⟩ (by simp) rfl
        obtain ⟨i, f, hs, hi, hf, rfl⟩ := h2.2 (by decide)
        subst hs
        have hx := h1 _ rfl
        simp at hx
        refine wpOp_val rfl rfl rfl (by simp [execOp, hx, go_sem]) (hK _ _ (some (i, f)) ⟨n, rfl⟩ ⟨fun z hz => (by cases hz), fun _ => ⟨i, f, rfl, hi, hf, rfl⟩⟩ (fun _ _ _ h => h) (fun _ _ _ h => h))
      | 19, ho =>
        simp at ho; subst ho; refine ⟨rfl, rfl, ?_⟩; rintro s w a ⟨n, rfl⟩ hH hF haf Kc hK
        obtain ⟨y, h1, h2⟩ := haf ⟨17, .data⟩ (by simp) rfl
        obtain ⟨i, f, hs, hi, hf, rfl⟩ := h2.2 (by decide)
        subst hs
        have hx := h1 _ rfl
        simp at hx
        refine wpOp_val rfl rfl rfl (by simp [execOp, hx, go_sem]) (hK _ _ (some (i, f)) ⟨n, rfl⟩ ⟨fun z hz => (by cases hz), fun _ => ⟨i, f, rfl, hi, hf, rfl⟩⟩ (fun _ _ _ h => h) (fun _ _ _ h => h))
      | 20, ho =>
        simp at ho; subst ho; refine ⟨rfl, rfl, ?_⟩; rintro s w a ⟨n, rfl⟩ hH hF haf Kc hK
        obtain ⟨y, h1, h2⟩ := haf ⟨18, .data⟩ (by simp) rfl
        obtain ⟨i, f, hs, hi, hf, rfl⟩ := h2.2 (by decide)
        subst hs
        have hx := h1 _ rfl
        simp at hx
        refine wpOp_val rfl rfl rfl (by simp [execOp, hx, go_sem]) (hK _ _ (some (i, f)) ⟨n, rfl⟩ ⟨fun z hz => (by cases hz), fun _ => ⟨i, f, rfl, hi, hf, rfl⟩⟩ (fun _ _ _ h => h) (fun _ _ _ h => h))
      | i + 21, ho => simp at ho
    case hend =>
      rintro a w1 s ⟨n1, rfl⟩ hF hU
      obtain ⟨y6, a6, hy6⟩ := hU 19 (by decide)
      obtain ⟨y7, a7, hy7⟩ := hU 20 (by decide)
      obtain ⟨i, f, hs, hi, hf, rfl⟩ := hy6.2 (by decide)
      obtain ⟨i', f', hs', hi', hf', rfl⟩ := hy7.2 (by decide)
      rw [hs] at hs'
      cases hs'
      replace a6 := a6 6 rfl
      replace a7 := a7 7 rfl
      simp at a6 a7
      obtain ⟨zs, hzs, hact⟩ := hF.form (by simp) (by decide)
      replace hzs : zs.length = 22 := by simpa using hzs
      obtain ⟨z6, zs0, e0, hzs0⟩ := list_cons (n := 21) hzs
      obtain ⟨z7, zs1, e1, hzs1⟩ := list_cons (n := 20) hzs0
      obtain ⟨z8, zs2, e2, hzs2⟩ := list_cons (n := 19) hzs1
      obtain ⟨z9, zs3, e3, hzs3⟩ := list_cons (n := 18) hzs2
      obtain ⟨z10, zs4, e4, hzs4⟩ := list_cons (n := 17) hzs3
      obtain ⟨z11, zs5, e5, hzs5⟩ := list_cons (n := 16) hzs4
      obtain ⟨z12, zs6, e6, hzs6⟩ := list_cons (n := 15) hzs5
      obtain ⟨z13, zs7, e7, hzs7⟩ := list_cons (n := 14) hzs6
      obtain ⟨z14, zs8, e8, hzs8⟩ := list_cons (n := 13) hzs7
      obtain ⟨z15, zs9, e9, hzs9⟩ := list_cons (n := 12) hzs8
      obtain ⟨z16, zs10, e10, hzs10⟩ := list_cons (n := 11) hzs9
      obtain ⟨z17, zs11, e11, hzs11⟩ := list_cons (n := 10) hzs10
      obtain ⟨z18, zs12, e12, hzs12⟩ := list_cons (n := 9) hzs11
      obtain ⟨z19, zs13, e13, hzs13⟩ := list_cons (n := 8) hzs12
      obtain ⟨z20, zs14, e14, hzs14⟩ := list_cons (n := 7) hzs13
      obtain ⟨z21, zs15, e15, hzs15⟩ := list_cons (n := 6) hzs14
      obtain ⟨z22, zs16, e16, hzs16⟩ := list_cons (n := 5) hzs15
      obtain ⟨z23, zs17, e17, hzs17⟩ := list_cons (n := 4) hzs16
      obtain ⟨z24, zs18, e18, hzs18⟩ := list_cons (n := 3) hzs17
      obtain ⟨z25, zs19, e19, hzs19⟩ := list_cons (n := 2) hzs18
      obtain ⟨z26, zs20, e20, hzs20⟩ := list_cons (n := 1) hzs19
      obtain ⟨z27, zs21, e21, hzs21⟩ := list_cons (n := 0) hzs20
      obtain rfl := List.eq_nil_of_length_eq_zero hzs21
      subst e21 e20 e19 e18 e17 e16 e15 e14 e13 e12 e11 e10 e9 e8 e7 e6 e5 e4 e3 e2 e1 e0
      subst hact
      simp at a6 a7
      subst a6 a7
      simp only [List.take_succ_cons, List.take_zero, List.drop_succ_cons, List.drop_zero, List.cons_append, List.nil_append]
      go_wp2_with fail
      go_meet
      exact ⟨i, f, n1, rfl, rfl, hi, hf, rfl⟩
  case rest =>
    obtain ⟨ix, f, n, rfl, rfl, hix, hf, hwc⟩ := hcut
    have hst2 : St c K v wc := by rw [hwc]; exact hA.drewN n
    have hbx2 : Blk wc bx #[.pointer (some ⟨c.C, 0, none⟩)] 28 := by rw [hwc]; exact hbx
    have hbl2 : Below c.base w wc := by rw [hwc]; exact below_drewN hblA n
    have hsz2 : c.base ≤ wc.heap.size := by rw [hwc]; exact hszA
    have hJ7 := HR.out.lJ
    clear hwc k0 k10 k6 kp kq hA hbx hblA hszA
    cases f with
    | true =>
      have hR := HR.out
      have hin : q ∈ O p := by
        obtain ⟨y, u', h1, h2, h3⟩ := hf rfl
        have h4 : u' = u := by omega
        subst h4
        have hyM := HOM.out y (List.mem_of_getElem? h1)
        have : y = q := by
          have hnd := List.pairwise_iff_getElem.1 (List.nodup_iff_pairwise_ne.1 HJN.out)
          obtain ⟨a1, a2⟩ := List.getElem?_eq_some_iff.1 h2
          obtain ⟨b1, b2⟩ := List.getElem?_eq_some_iff.1 hu
          rcases Nat.lt_trichotomy y q with hlt | heq | hgt
          · exact absurd (a2.trans b2.symm) (hnd y q a1 b1 hlt)
          · exact heq
          · exact absurd (b2.trans a2.symm) (hnd q y b1 a1 hgt)
        subst this
        exact List.mem_of_getElem? h1
      have hin2 := HOI.out hin
      have HF : Hid (true = true → ∃ y u', (O p)[ix]? = some y ∧ (0 :: c.N :: J)[y]? = some u' ∧ (u' : Int) = (u : Int)) := hf
      clear hf
      go_wp2_with fail
      refine bodyPost_ret (v := .tuple #[]) (by simp [results, Yba.results28, go_sem]) rfl ⟨rfl, hbl2, K, v, O, I, hst2, rfl, ?_, ?_, ?_⟩
      · obtain ⟨f6, q6, b6⟩ := hR.r6
        obtain ⟨f8, q8, b8⟩ := hR.r8
        obtain ⟨pk, q14, b14⟩ := hR.r14
        obtain ⟨gd, q18, b18, p18⟩ := hR.r18
        exact hR.turn (fun _ _ _ _ _ _ _ => rfl) rfl (by omega) ⟨f6, q6, fun y => by have := b6 y; omega⟩ hR.r7 ⟨f8, q8, fun y => by have := b8 y; omega⟩ ⟨pk, q14, by omega⟩ ⟨gd, q18, by omega, p18⟩
      · intro y z
        constructor
        · exact .inl
        · rintro (h | ⟨rfl, rfl⟩)
          · exact h
          · exact hin
      · intro y z
        constructor
        · exact .inl
        · rintro (h | ⟨rfl, rfl⟩)
          · exact h
          · exact hin2
    | false =>
      clear hf
      obtain ⟨wb, hwb⟩ : ∃ wb, wb = wc := ⟨_, rfl⟩
      rw [← hwb] at hst2 hbx2 hbl2 hsz2 ⊢
      clear hwb wc
      go_upto_region 3 with fail
      go_cut [] from 29 to 45 (fun wc' => ∃ K3, ElSt c v bx wb K3 wc' ∧ (∀ n, n ≠ 2 → n ≠ 300 + p → n ≠ 1010 → K3 n = K n) ∧ ∃ g cc, K3 (300 + p) = some ⟨3, 1, (O p).length + 1, .slice (some ⟨g, 0, none⟩) ((O p).length + 1) cc, ints ((O p).take ix ++ q :: (O p).drop ix)⟩ ∧ K3 2 = some ⟨26, 1, J.length + 2, .slice (some ⟨gO, 0, none⟩) (J.length + 2) cO, vsO.set p (.slice (some ⟨g, 0, none⟩) ((O p).length + 1) cc)⟩)
      case first =>
        refine wp_elem (by kernel_rfl) (by kernel_rfl) hst2 hsz2 bx hbx2 2 (300 + p) 1010 (J.length + 2) p gO cO vsO (O p) ((O p).take ix ++ q :: (O p).drop ix) q (.slice xa (O p).length xc) eO' hvp hkp ⟨by omega, by omega, by omega⟩ ⟨fun i => ([some (.pointer (some ⟨c.C, 0, none⟩)), some (.pointer (some ⟨c.C, 0, none⟩)), some (.pointer (some ⟨c.C, 10, none⟩)), some (.slice (some ⟨gO, 0, none⟩) (J.length + 2) cO), some (.int .i64 (p : Int)), some (.pointer (some ⟨c.C, 0, none⟩)), some (.pointer (some ⟨c.C, 0, none⟩)), some (.pointer (some ⟨c.C, 10, none⟩)), some (.slice (some ⟨gO, 0, none⟩) (J.length + 2) cO), some (.int .i64 (p : Int)), some (.pointer (some ⟨gO, p, none⟩)), none, some (.int .i64 (ix : Int)), some (.int .i64 (q : Int)), none, none, some (.pointer (some ⟨gO, p, none⟩)), none] : List (Option Value)).getD i none, fun i => ([some 29, some 30, some 31, some 32, some 33, some 34, some 35, some 36, some 37, some 38, some 39, some 40, some 41, some 42, some 43, some 44, some 45, none] : List (Option Nat)).getD i none, 11, 14, 15, 17⟩ 29 45 ?hslot ?hinj (show (11 : Nat) ≠ 14 ∧ (11 : Nat) ≠ 15 ∧ (11 : Nat) ≠ 17 ∧ (14 : Nat) ≠ 15 ∧ (14 : Nat) ≠ 17 ∧ (15 : Nat) ≠ 17 by decide) (show (17 : Nat) < 18 by decide) ?hop ?hend
        case hslot => intro i s hi; have := allL (p := fun s => decide (29 ≤ s ∧ s ≤ 45)) (by decide) hi; simp at this; exact ⟨this.1, this.2, by simp; omega⟩
        case hinj => intro i j _ _ hij s h1 h2; exact hij (uniqL (by decide) h1 h2)
        case hop =>
          intro i o ho
          match i, ho with
          | 0, ho => simp at ho; subst ho; exact ⟨rfl, rfl, .inl ⟨_, rfl, show (0 : Nat) ≠ 11 by decide, show (0 : Nat) ≠ 14 by decide, show (0 : Nat) ≠ 15 by decide, show (0 : Nat) ≠ 17 by decide, fun a w K' hF hP hE => by have hx : a.tmps[3]? = some (.pointer (some ⟨bx, 0, none⟩)) := (hF.2.2 3 (.inl (by decide))).trans rfl; have hc := hE.box.cell? 0; simp [execOp, hx, hc, go_sem]⟩⟩
          | 1, ho => simp at ho; subst ho; exact ⟨rfl, rfl, .inl ⟨_, rfl, show (1 : Nat) ≠ 11 by decide, show (1 : Nat) ≠ 14 by decide, show (1 : Nat) ≠ 15 by decide, show (1 : Nat) ≠ 17 by decide, fun a w K' hF hP hE => by have hx := hP ⟨0, .data⟩ (by simp) rfl _ _ rfl rfl; simp [execOp, hx, go_sem]⟩⟩
          | 2, ho => simp at ho; subst ho; exact ⟨rfl, rfl, .inl ⟨_, rfl, show (2 : Nat) ≠ 11 by decide, show (2 : Nat) ≠ 14 by decide, show (2 : Nat) ≠ 15 by decide, show (2 : Nat) ≠ 17 by decide, fun a w K' hF hP hE => by have hx := hP ⟨1, .data⟩ (by simp) rfl _ _ rfl rfl; simp [execOp, hx, go_sem]⟩⟩
          | 3, ho => simp at ho; subst ho; exact ⟨rfl, rfl, .inl ⟨_, rfl, show (3 : Nat) ≠ 11 by decide, show (3 : Nat) ≠ 14 by decide, show (3 : Nat) ≠ 15 by decide, show (3 : Nat) ≠ 17 by decide, fun a w K' hF hP hE => by have hx := hP ⟨2, .data⟩ (by simp) rfl _ _ rfl rfl; have hc := (show w.cell? ⟨c.C, 10, none⟩ = some (.slice (some ⟨gO, 0, none⟩) (J.length + 2) cO) by rw [← hOv]; exact hE.st.hC.cell? 10); simp [execOp, hx, hc, go_sem]⟩⟩
          | 4, ho => simp at ho; subst ho; exact ⟨rfl, rfl, .inl ⟨_, rfl, show (4 : Nat) ≠ 11 by decide, show (4 : Nat) ≠ 14 by decide, show (4 : Nat) ≠ 15 by decide, show (4 : Nat) ≠ 17 by decide, fun a w K' hF hP hE => by have hx : a.tmps[1]? = some (.int .i64 (p : Int)) := (hF.2.2 1 (.inl (by decide))).trans rfl; simp [execOp, hx, go_sem]⟩⟩
          | 5, ho => simp at ho; subst ho; exact ⟨rfl, rfl, .inl ⟨_, rfl, show (5 : Nat) ≠ 11 by decide, show (5 : Nat) ≠ 14 by decide, show (5 : Nat) ≠ 15 by decide, show (5 : Nat) ≠ 17 by decide, fun a w K' hF hP hE => by have hx : a.tmps[3]? = some (.pointer (some ⟨bx, 0, none⟩)) := (hF.2.2 3 (.inl (by decide))).trans rfl; have hc := hE.box.cell? 0; simp [execOp, hx, hc, go_sem]⟩⟩
          | 6, ho => simp at ho; subst ho; exact ⟨rfl, rfl, .inl ⟨_, rfl, show (6 : Nat) ≠ 11 by decide, show (6 : Nat) ≠ 14 by decide, show (6 : Nat) ≠ 15 by decide, show (6 : Nat) ≠ 17 by decide, fun a w K' hF hP hE => by have hx := hP ⟨5, .data⟩ (by simp) rfl _ _ rfl rfl; simp [execOp, hx, go_sem]⟩⟩
          | 7, ho => simp at ho; subst ho; exact ⟨rfl, rfl, .inl ⟨_, rfl, show (7 : Nat) ≠ 11 by decide, show (7 : Nat) ≠ 14 by decide, show (7 : Nat) ≠ 15 by decide, show (7 : Nat) ≠ 17 by decide, fun a w K' hF hP hE => by have hx := hP ⟨6, .data⟩ (by simp) rfl _ _ rfl rfl; simp [execOp, hx, go_sem]⟩⟩
          | 8, ho => simp at ho; subst ho; exact ⟨rfl, rfl, .inl ⟨_, rfl, show (8 : Nat) ≠ 11 by decide, show (8 : Nat) ≠ 14 by decide, show (8 : Nat) ≠ 15 by decide, show (8 : Nat) ≠ 17 by decide, fun a w K' hF hP hE => by have hx := hP ⟨7, .data⟩ (by simp) rfl _ _ rfl rfl; have hc := (show w.cell? ⟨c.C, 10, none⟩ = some (.slice (some ⟨gO, 0, none⟩) (J.length + 2) cO) by rw [← hOv]; exact hE.st.hC.cell? 10); simp [execOp, hx, hc, go_sem]⟩⟩
          | 9, ho => simp at ho; subst ho; exact ⟨rfl, rfl, .inl ⟨_, rfl, show (9 : Nat) ≠ 11 by decide, show (9 : Nat) ≠ 14 by decide, show (9 : Nat) ≠ 15 by decide, show (9 : Nat) ≠ 17 by decide, fun a w K' hF hP hE => by have hx : a.tmps[1]? = some (.int .i64 (p : Int)) := (hF.2.2 1 (.inl (by decide))).trans rfl; simp [execOp, hx, go_sem]⟩⟩
          | 10, ho => simp at ho; subst ho; exact ⟨rfl, rfl, .inl ⟨_, rfl, show (10 : Nat) ≠ 11 by decide, show (10 : Nat) ≠ 14 by decide, show (10 : Nat) ≠ 15 by decide, show (10 : Nat) ≠ 17 by decide, fun a w K' hF hP hE => by have hx := hP ⟨8, .data⟩ (by simp) rfl _ _ rfl rfl; have hy := hP ⟨9, .data⟩ (by simp) rfl _ _ rfl rfl; simp [execOp, hx, hy, go_sem, hpM']⟩⟩
          | 11, ho => simp at ho; subst ho; exact ⟨rfl, rfl, .inr (.inl ⟨rfl, rfl, fun a w hF hP hc => by have hx := hP ⟨10, .data⟩ (by simp) rfl _ _ rfl rfl; simp [execOp, hx, hc, go_sem]⟩)⟩
          | 12, ho => simp at ho; subst ho; exact ⟨rfl, rfl, .inl ⟨_, rfl, show (12 : Nat) ≠ 11 by decide, show (12 : Nat) ≠ 14 by decide, show (12 : Nat) ≠ 15 by decide, show (12 : Nat) ≠ 17 by decide, fun a w K' hF hP hE => by have hx : a.tmps[6]? = some (.int .i64 (ix : Int)) := (hF.2.2 6 (.inl (by decide))).trans rfl; simp [execOp, hx, go_sem]⟩⟩
          | 13, ho => simp at ho; subst ho; exact ⟨rfl, rfl, .inl ⟨_, rfl, show (13 : Nat) ≠ 11 by decide, show (13 : Nat) ≠ 14 by decide, show (13 : Nat) ≠ 15 by decide, show (13 : Nat) ≠ 17 by decide, fun a w K' hF hP hE => by have hx : a.tmps[2]? = some (.int .i64 (q : Int)) := (hF.2.2 2 (.inl (by decide))).trans rfl; simp [execOp, hx, go_sem]⟩⟩
          | 14, ho => simp at ho; subst ho; exact ⟨rfl, rfl, .inr (.inr (.inl ⟨rfl, rfl, fun a w hF hP => by have hx := hP ⟨13, .data⟩ (by simp) rfl _ _ rfl rfl; simp [execOp, hx, go_sem]⟩))⟩
          | 15, ho => have ho' := ho; simp at ho; subst ho; exact ⟨rfl, rfl, .inr (.inr (.inr (.inl ⟨rfl, rfl, ⟨11, .data⟩, ⟨14, .data⟩, 40, 43, by simp, rfl, rfl, rfl, by simp, rfl, rfl, rfl, fun a w K' b hF hP hE hk hT h1 h2 => el_insert ho' rfl rfl hix (by have := HR.out.bO p; omega) (by omega) a w K' b hE hk hT (by have hx := hP ⟨12, .data⟩ (by simp) rfl _ _ rfl rfl; simp [h1, h2, hx, go_sem])⟩)))⟩
          | 16, ho => simp at ho; subst ho; exact ⟨rfl, rfl, .inl ⟨_, rfl, show (16 : Nat) ≠ 11 by decide, show (16 : Nat) ≠ 14 by decide, show (16 : Nat) ≠ 15 by decide, show (16 : Nat) ≠ 17 by decide, fun a w K' hF hP hE => by have hx := hP ⟨3, .data⟩ (by simp) rfl _ _ rfl rfl; have hy := hP ⟨4, .data⟩ (by simp) rfl _ _ rfl rfl; simp [execOp, hx, hy, go_sem, hpM']⟩⟩
          | 17, ho => simp at ho; subst ho; exact ⟨rfl, rfl, .inr (.inr (.inr (.inr ⟨rfl, rfl, rfl, ⟨⟨11, .phase⟩, by simp, rfl, rfl⟩, ⟨15, .data⟩, 44, by simp, rfl, rfl, rfl, fun a w b n cc y hF hP hx hc hf => by have hp := hP ⟨16, .data⟩ (by simp) rfl _ _ rfl rfl; simp [execOp, hp, hx, hc, hf, go_sem]⟩)))⟩
          | i + 18, ho => simp at ho
        case hend =>
          intro a w6 K6 hF
          obtain ⟨zs, hzs, hact⟩ := hF.form (by simp) (by decide)
          replace hzs : zs.length = 17 := by simpa using hzs
          obtain ⟨z29, zs0, e0, hzs0⟩ := list_cons (n := 16) hzs
          obtain ⟨z30, zs1, e1, hzs1⟩ := list_cons (n := 15) hzs0
          obtain ⟨z31, zs2, e2, hzs2⟩ := list_cons (n := 14) hzs1
          obtain ⟨z32, zs3, e3, hzs3⟩ := list_cons (n := 13) hzs2
          obtain ⟨z33, zs4, e4, hzs4⟩ := list_cons (n := 12) hzs3
          obtain ⟨z34, zs5, e5, hzs5⟩ := list_cons (n := 11) hzs4
          obtain ⟨z35, zs6, e6, hzs6⟩ := list_cons (n := 10) hzs5
          obtain ⟨z36, zs7, e7, hzs7⟩ := list_cons (n := 9) hzs6
          obtain ⟨z37, zs8, e8, hzs8⟩ := list_cons (n := 8) hzs7
          obtain ⟨z38, zs9, e9, hzs9⟩ := list_cons (n := 7) hzs8
          obtain ⟨z39, zs10, e10, hzs10⟩ := list_cons (n := 6) hzs9
          obtain ⟨z40, zs11, e11, hzs11⟩ := list_cons (n := 5) hzs10
          obtain ⟨z41, zs12, e12, hzs12⟩ := list_cons (n := 4) hzs11
          obtain ⟨z42, zs13, e13, hzs13⟩ := list_cons (n := 3) hzs12
          obtain ⟨z43, zs14, e14, hzs14⟩ := list_cons (n := 2) hzs13
          obtain ⟨z44, zs15, e15, hzs15⟩ := list_cons (n := 1) hzs14
          obtain ⟨z45, zs16, e16, hzs16⟩ := list_cons (n := 0) hzs15
          obtain rfl := List.eq_nil_of_length_eq_zero hzs16
          subst e16 e15 e14 e13 e12 e11 e10 e9 e8 e7 e6 e5 e4 e3 e2 e1 e0
          subst hact
          intro hE6 hfr6 hg6
          simp only [List.take_succ_cons, List.take_zero, List.drop_succ_cons, List.drop_zero, List.cons_append, List.nil_append]
          go_wp2_with fail
          go_meet
          exact ⟨K6, hE6, hfr6, hg6⟩
      case rest =>
        obtain ⟨wd, hwd⟩ : ∃ wd, wd = wc := ⟨_, rfl⟩
        rw [← hwd] at hcut ⊢
        clear hwd wc
        obtain ⟨K3, hE3, hfr3, g3, c3, hkp3, hR3⟩ := hcut
        obtain ⟨vsN, eN, hN⟩ := HR.out.r3.ex
        obtain ⟨gN, cN, hNv, _⟩ := h.sep.form eN |>.2 |>.resolve_left (by rintro ⟨_, h2⟩; simp at h2)
        have hNv : v.inn = .slice (some ⟨gN, 0, none⟩) (J.length + 2) cN := hNv
        have eN' : K3 3 = some ⟨26, 1, J.length + 2, .slice (some ⟨gN, 0, none⟩) (J.length + 2) cN, vsN⟩ := by rw [hfr3 3 (by omega) (by omega) (by omega), eN, hNv]
        obtain ⟨y0, hvq, hkq0⟩ := hN q hqM
        obtain ⟨ya, yc, rfl, _⟩ := h.sep.shape hkq0
        have hkq : K3 (400 + q) = some ⟨3, 1, (I q).length, .slice ya (I q).length yc, ints (I q)⟩ := by rw [hfr3 _ (by omega) (by have := HR.out.lJ; omega) (by have := HR.out.lJ; omega)]; exact hkq0
        have HN : Hid (∀ u, u < J.length + 2 → ∃ r, vsN[u]? = some r ∧ K (400 + u) = some ⟨3, 1, (I u).length, r, ints (I u)⟩) := hN
        have HF3 : Hid (∀ n, n ≠ 2 → n ≠ 300 + p → n ≠ 1010 → K3 n = K n) := hfr3
        clear hN hfr3
        go_upto_region 4 with fail
        go_cut [] from 46 to 61 (fun wc' => ∃ K4, ElSt c v bx wd K4 wc' ∧ (∀ n, n ≠ 3 → n ≠ 400 + q → n ≠ 1010 → K4 n = K3 n) ∧ ∃ g cc, K4 (400 + q) = some ⟨3, 1, (I q).length + 1, .slice (some ⟨g, 0, none⟩) ((I q).length + 1) cc, ints (I q ++ [p])⟩ ∧ K4 3 = some ⟨26, 1, J.length + 2, .slice (some ⟨gN, 0, none⟩) (J.length + 2) cN, vsN.set q (.slice (some ⟨g, 0, none⟩) ((I q).length + 1) cc)⟩)
        case first =>
          refine wp_elem (by kernel_rfl) (by kernel_rfl) hE3.st hE3.size bx hE3.box 3 (400 + q) 1010 (J.length + 2) q gN cN vsN (I q) (I q ++ [p]) p (.slice ya (I q).length yc) eN' hvq hkq ⟨by omega, by omega, by omega⟩ ⟨fun i => ([some (.pointer (some ⟨c.C, 0, none⟩)), some (.pointer (some ⟨c.C, 0, none⟩)), some (.pointer (some ⟨c.C, 11, none⟩)), some (.slice (some ⟨gN, 0, none⟩) (J.length + 2) cN), some (.int .i64 (q : Int)), some (.pointer (some ⟨c.C, 0, none⟩)), some (.pointer (some ⟨c.C, 0, none⟩)), some (.pointer (some ⟨c.C, 11, none⟩)), some (.slice (some ⟨gN, 0, none⟩) (J.length + 2) cN), some (.int .i64 (q : Int)), some (.pointer (some ⟨gN, q, none⟩)), none, some (.int .i64 (p : Int)), none, none, some (.pointer (some ⟨gN, q, none⟩)), none] : List (Option Value)).getD i none, fun i => ([some 46, some 47, some 48, some 49, some 50, some 51, some 52, some 53, some 54, some 55, some 56, some 57, some 58, some 59, some 60, some 61, none] : List (Option Nat)).getD i none, 11, 13, 14, 16⟩ 46 61 ?hslot ?hinj (show (11 : Nat) ≠ 13 ∧ (11 : Nat) ≠ 14 ∧ (11 : Nat) ≠ 16 ∧ (13 : Nat) ≠ 14 ∧ (13 : Nat) ≠ 16 ∧ (14 : Nat) ≠ 16 by decide) (show (16 : Nat) < 17 by decide) ?hop ?hend
          case hslot => intro i s hi; have := allL (p := fun s => decide (46 ≤ s ∧ s ≤ 61)) (by decide) hi; simp at this; exact ⟨this.1, this.2, by simp; omega⟩
          case hinj => intro i j _ _ hij s h1 h2; exact hij (uniqL (by decide) h1 h2)
          case hop =>
            intro i o ho
            match i, ho with
            | 0, ho => simp at ho; subst ho; exact ⟨rfl, rfl, .inl ⟨_, rfl, show (0 : Nat) ≠ 11 by decide, show (0 : Nat) ≠ 13 by decide, show (0 : Nat) ≠ 14 by decide, show (0 : Nat) ≠ 16 by decide, fun a w K' hF hP hE => by have hx : a.tmps[3]? = some (.pointer (some ⟨bx, 0, none⟩)) := (hF.2.2 3 (.inl (by decide))).trans rfl; have hc := hE.box.cell? 0; simp [execOp, hx, hc, go_sem]⟩⟩
            | 1, ho => simp at ho; subst ho; exact ⟨rfl, rfl, .inl ⟨_, rfl, show (1 : Nat) ≠ 11 by decide, show (1 : Nat) ≠ 13 by decide, show (1 : Nat) ≠ 14 by decide, show (1 : Nat) ≠ 16 by decide, fun a w K' hF hP hE => by have hx := hP ⟨0, .data⟩ (by simp) rfl _ _ rfl rfl; simp [execOp, hx, go_sem]⟩⟩
            | 2, ho => simp at ho; subst ho; exact ⟨rfl, rfl, .inl ⟨_, rfl, show (2 : Nat) ≠ 11 by decide, show (2 : Nat) ≠ 13 by decide, show (2 : Nat) ≠ 14 by decide, show (2 : Nat) ≠ 16 by decide, fun a w K' hF hP hE => by have hx := hP ⟨1, .data⟩ (by simp) rfl _ _ rfl rfl; simp [execOp, hx, go_sem]⟩⟩
            | 3, ho => simp at ho; subst ho; exact ⟨rfl, rfl, .inl ⟨_, rfl, show (3 : Nat) ≠ 11 by decide, show (3 : Nat) ≠ 13 by decide, show (3 : Nat) ≠ 14 by decide, show (3 : Nat) ≠ 16 by decide, fun a w K' hF hP hE => by have hx := hP ⟨2, .data⟩ (by simp) rfl _ _ rfl rfl; have hc := (show w.cell? ⟨c.C, 11, none⟩ = some (.slice (some ⟨gN, 0, none⟩) (J.length + 2) cN) by rw [← hNv]; exact hE.st.hC.cell? 11); simp [execOp, hx, hc, go_sem]⟩⟩
            | 4, ho => simp at ho; subst ho; exact ⟨rfl, rfl, .inl ⟨_, rfl, show (4 : Nat) ≠ 11 by decide, show (4 : Nat) ≠ 13 by decide, show (4 : Nat) ≠ 14 by decide, show (4 : Nat) ≠ 16 by decide, fun a w K' hF hP hE => by have hx : a.tmps[2]? = some (.int .i64 (q : Int)) := (hF.2.2 2 (.inl (by decide))).trans rfl; simp [execOp, hx, go_sem]⟩⟩
            | 5, ho => simp at ho; subst ho; exact ⟨rfl, rfl, .inl ⟨_, rfl, show (5 : Nat) ≠ 11 by decide, show (5 : Nat) ≠ 13 by decide, show (5 : Nat) ≠ 14 by decide, show (5 : Nat) ≠ 16 by decide, fun a w K' hF hP hE => by have hx : a.tmps[3]? = some (.pointer (some ⟨bx, 0, none⟩)) := (hF.2.2 3 (.inl (by decide))).trans rfl; have hc := hE.box.cell? 0; simp [execOp, hx, hc, go_sem]⟩⟩
            | 6, ho => simp at ho; subst ho; exact ⟨rfl, rfl, .inl ⟨_, rfl, show (6 : Nat) ≠ 11 by decide, show (6 : Nat) ≠ 13 by decide, show (6 : Nat) ≠ 14 by decide, show (6 : Nat) ≠ 16 by decide, fun a w K' hF hP hE => by have hx := hP ⟨5, .data⟩ (by simp) rfl _ _ rfl rfl; simp [execOp, hx, go_sem]⟩⟩
            | 7, ho => simp at ho; subst ho; exact ⟨rfl, rfl, .inl ⟨_, rfl, show (7 : Nat) ≠ 11 by decide, show (7 : Nat) ≠ 13 by decide, show (7 : Nat) ≠ 14 by decide, show (7 : Nat) ≠ 16 by decide, fun a w K' hF hP hE => by have hx := hP ⟨6, .data⟩ (by simp) rfl _ _ rfl rfl; simp [execOp, hx, go_sem]⟩⟩
            | 8, ho => simp at ho; subst ho; exact ⟨rfl, rfl, .inl ⟨_, rfl, show (8 : Nat) ≠ 11 by decide, show (8 : Nat) ≠ 13 by decide, show (8 : Nat) ≠ 14 by decide, show (8 : Nat) ≠ 16 by decide, fun a w K' hF hP hE => by have hx := hP ⟨7, .data⟩ (by simp) rfl _ _ rfl rfl; have hc := (show w.cell? ⟨c.C, 11, none⟩ = some (.slice (some ⟨gN, 0, none⟩) (J.length + 2) cN) by rw [← hNv]; exact hE.st.hC.cell? 11); simp [execOp, hx, hc, go_sem]⟩⟩
            | 9, ho => simp at ho; subst ho; exact ⟨rfl, rfl, .inl ⟨_, rfl, show (9 : Nat) ≠ 11 by decide, show (9 : Nat) ≠ 13 by decide, show (9 : Nat) ≠ 14 by decide, show (9 : Nat) ≠ 16 by decide, fun a w K' hF hP hE => by have hx : a.tmps[2]? = some (.int .i64 (q : Int)) := (hF.2.2 2 (.inl (by decide))).trans rfl; simp [execOp, hx, go_sem]⟩⟩
            | 10, ho => simp at ho; subst ho; exact ⟨rfl, rfl, .inl ⟨_, rfl, show (10 : Nat) ≠ 11 by decide, show (10 : Nat) ≠ 13 by decide, show (10 : Nat) ≠ 14 by decide, show (10 : Nat) ≠ 16 by decide, fun a w K' hF hP hE => by have hx := hP ⟨8, .data⟩ (by simp) rfl _ _ rfl rfl; have hy := hP ⟨9, .data⟩ (by simp) rfl _ _ rfl rfl; simp [execOp, hx, hy, go_sem, hqM']⟩⟩
            | 11, ho => simp at ho; subst ho; exact ⟨rfl, rfl, .inr (.inl ⟨rfl, rfl, fun a w hF hP hc => by have hx := hP ⟨10, .data⟩ (by simp) rfl _ _ rfl rfl; simp [execOp, hx, hc, go_sem]⟩)⟩
            | 12, ho => simp at ho; subst ho; exact ⟨rfl, rfl, .inl ⟨_, rfl, show (12 : Nat) ≠ 11 by decide, show (12 : Nat) ≠ 13 by decide, show (12 : Nat) ≠ 14 by decide, show (12 : Nat) ≠ 16 by decide, fun a w K' hF hP hE => by have hx : a.tmps[1]? = some (.int .i64 (p : Int)) := (hF.2.2 1 (.inl (by decide))).trans rfl; simp [execOp, hx, go_sem]⟩⟩
            | 13, ho => simp at ho; subst ho; exact ⟨rfl, rfl, .inr (.inr (.inl ⟨rfl, rfl, fun a w hF hP => by have hx := hP ⟨12, .data⟩ (by simp) rfl _ _ rfl rfl; simp [execOp, hx, go_sem]⟩))⟩
            | 14, ho => have ho' := ho; simp at ho; subst ho; exact ⟨rfl, rfl, .inr (.inr (.inr (.inl ⟨rfl, rfl, ⟨11, .data⟩, ⟨13, .data⟩, 57, 59, by simp, rfl, rfl, rfl, by simp, rfl, rfl, rfl, fun a w K' b hF hP hE hk hT h1 h2 => el_append ho' rfl rfl rfl (by have := HR.out.bI q; omega) a w K' b hE hk hT h1 h2⟩)))⟩
            | 15, ho => simp at ho; subst ho; exact ⟨rfl, rfl, .inl ⟨_, rfl, show (15 : Nat) ≠ 11 by decide, show (15 : Nat) ≠ 13 by decide, show (15 : Nat) ≠ 14 by decide, show (15 : Nat) ≠ 16 by decide, fun a w K' hF hP hE => by have hx := hP ⟨3, .data⟩ (by simp) rfl _ _ rfl rfl; have hy := hP ⟨4, .data⟩ (by simp) rfl _ _ rfl rfl; simp [execOp, hx, hy, go_sem, hqM']⟩⟩
            | 16, ho => simp at ho; subst ho; exact ⟨rfl, rfl, .inr (.inr (.inr (.inr ⟨rfl, rfl, rfl, ⟨⟨11, .phase⟩, by simp, rfl, rfl⟩, ⟨14, .data⟩, 60, by simp, rfl, rfl, rfl, fun a w b n cc y hF hP hx hc hf => by have hp := hP ⟨15, .data⟩ (by simp) rfl _ _ rfl rfl; simp [execOp, hp, hx, hc, hf, go_sem]⟩)))⟩
            | i + 17, ho => simp at ho
          case hend =>
            intro a w6 K6 hF
            obtain ⟨zs, hzs, hact⟩ := hF.form (by simp) (by decide)
            replace hzs : zs.length = 16 := by simpa using hzs
            obtain ⟨z46, zs0, e0, hzs0⟩ := list_cons (n := 15) hzs
            obtain ⟨z47, zs1, e1, hzs1⟩ := list_cons (n := 14) hzs0
            obtain ⟨z48, zs2, e2, hzs2⟩ := list_cons (n := 13) hzs1
            obtain ⟨z49, zs3, e3, hzs3⟩ := list_cons (n := 12) hzs2
            obtain ⟨z50, zs4, e4, hzs4⟩ := list_cons (n := 11) hzs3
            obtain ⟨z51, zs5, e5, hzs5⟩ := list_cons (n := 10) hzs4
            obtain ⟨z52, zs6, e6, hzs6⟩ := list_cons (n := 9) hzs5
            obtain ⟨z53, zs7, e7, hzs7⟩ := list_cons (n := 8) hzs6
            obtain ⟨z54, zs8, e8, hzs8⟩ := list_cons (n := 7) hzs7
            obtain ⟨z55, zs9, e9, hzs9⟩ := list_cons (n := 6) hzs8
            obtain ⟨z56, zs10, e10, hzs10⟩ := list_cons (n := 5) hzs9
            obtain ⟨z57, zs11, e11, hzs11⟩ := list_cons (n := 4) hzs10
            obtain ⟨z58, zs12, e12, hzs12⟩ := list_cons (n := 3) hzs11
            obtain ⟨z59, zs13, e13, hzs13⟩ := list_cons (n := 2) hzs12
            obtain ⟨z60, zs14, e14, hzs14⟩ := list_cons (n := 1) hzs13
            obtain ⟨z61, zs15, e15, hzs15⟩ := list_cons (n := 0) hzs14
            obtain rfl := List.eq_nil_of_length_eq_zero hzs15
            subst e15 e14 e13 e12 e11 e10 e9 e8 e7 e6 e5 e4 e3 e2 e1 e0
            subst hact
            intro hE6 hfr6 hg6
            simp only [List.take_succ_cons, List.take_zero, List.drop_succ_cons, List.drop_zero, List.cons_append, List.nil_append]
            go_wp2_with fail
            go_meet
            exact ⟨K6, hE6, hfr6, hg6⟩
        case rest =>
          obtain ⟨K4, hE4, hfr4, g4, c4, hkq4, hR4⟩ := hcut
          have hOl : vsO.length = J.length + 2 := by have := (h.sep.form eO).1; simpa using this
          have hNl : vsN.length = J.length + 2 := by have := (h.sep.form eN).1; simpa using this
          have hfrA : ∀ n, n < 1000 → n ≠ 2 → n ≠ 3 → n ≠ 300 + p → n ≠ 400 + q → K4 n = K n := by
            intro n h1 h2 h3 h4 h5
            rw [hfr4 n h3 h5 (by omega), HF3.out n h2 h4 (by omega)]
          have hRw4 : Rw c K4 v D J (fun y => if y = p then (O p).take ix ++ q :: (O p).drop ix else O y) (fun y => if y = q then I q ++ [p] else I y) L (B + 1) m := by
            refine HR.out.edge hfrA ?_ ?_ ?_ ?_ (by omega)
            · refine ⟨vsO.set p (.slice (some ⟨g3, 0, none⟩) ((O p).length + 1) c3), by rw [hfr4 2 (by omega) (by omega) (by omega), hR3, hOv], fun y hy => ?_⟩
              by_cases hyp : y = p
              · subst hyp
                refine ⟨_, by rw [List.getElem?_set_self (by omega)], ?_⟩
                rw [hfr4 _ (by omega) (by omega) (by omega), hkp3]
                simp
                omega
              · obtain ⟨r, p1, p2⟩ := HO.out y hy
                refine ⟨r, by rw [List.getElem?_set_ne (Ne.symm hyp)]; exact p1, ?_⟩
                rw [hfrA _ (by omega) (by omega) (by omega) (by omega) (by omega), p2]
                simp [hyp]
            · refine ⟨vsN.set q (.slice (some ⟨g4, 0, none⟩) ((I q).length + 1) c4), by rw [hR4, hNv], fun y hy => ?_⟩
              by_cases hyq : y = q
              · subst hyq
                refine ⟨_, by rw [List.getElem?_set_self (by omega)], ?_⟩
                rw [hkq4]
                simp
              · obtain ⟨r, p1, p2⟩ := HN.out y hy
                refine ⟨r, by rw [List.getElem?_set_ne (Ne.symm hyq)]; exact p1, ?_⟩
                rw [hfrA _ (by omega) (by omega) (by omega) (by omega) (by omega), p2]
                simp [hyq]
            · intro y
              have := HR.out.bO p
              have := HR.out.bO y
              show (if y = p then (O p).take ix ++ q :: (O p).drop ix else O y).length ≤ B + 1
              split
              · simp; omega
              · omega
            · intro y
              have := HR.out.bI q
              have := HR.out.bI y
              show (if y = q then I q ++ [p] else I y).length ≤ B + 1
              split
              · simp; omega
              · omega
          have hLk : Lk O I (fun y => if y = p then (O p).take ix ++ q :: (O p).drop ix else O y) (fun y => if y = q then I q ++ [p] else I y) p q := by
            constructor
            · intro y z
              show z ∈ (if y = p then (O p).take ix ++ q :: (O p).drop ix else O y) ↔ _
              by_cases hyp : y = p
              · subst hyp
                simp only [if_true, List.mem_append, List.mem_cons, true_and]
                constructor
                · rintro (h | h | h)
                  · exact .inl (List.mem_of_mem_take h)
                  · exact .inr h
                  · exact .inl (List.mem_of_mem_drop h)
                · rintro (h | h)
                  · rw [← List.take_append_drop ix (O y)] at h
                    rcases List.mem_append.1 h with h | h
                    · exact .inl h
                    · exact .inr (.inr h)
                  · exact .inr (.inl h)
              · simp [hyp]
            · intro y z
              show z ∈ (if y = q then I q ++ [p] else I y) ↔ _
              by_cases hyq : y = q
              · subst hyq
                simp
              · simp [hyq]
          obtain ⟨O', hO'⟩ : ∃ O' : Nat → List Nat, O' = (fun y => if y = p then (O p).take ix ++ q :: (O p).drop ix else O y) := ⟨_, rfl⟩
          obtain ⟨I', hI'⟩ : ∃ I' : Nat → List Nat, I' = (fun y => if y = q then I q ++ [p] else I y) := ⟨_, rfl⟩
          rw [← hO', ← hI'] at hRw4 hLk
          have hbl4 := (hbl2.trans hE3.bel).trans hE4.bel
          have HRw4 : Hid (Rw c K4 v D J O' I' L (B + 1) m) := hRw4
          have HLK : Hid (Lk O I O' I' p q) := hLk
          have hst4 := hE4.st
          have hsz4 := hE4.size
          have hbx4 := hE4.box
          obtain ⟨f8, e8, b8⟩ := hRw4.r8
          obtain ⟨gX, cX, hXv, _⟩ := hst4.sep.form e8 |>.2 |>.resolve_left (by rintro ⟨_, h2⟩; simp at h2)
          have hXv : v.nxt = .slice (some ⟨gX, 0, none⟩) (J.length + 2) cX := hXv
          have e8' : K4 8 = some ⟨3, 1, J.length + 2, .slice (some ⟨gX, 0, none⟩) (J.length + 2) cX, rowOf f8 (J.length + 2)⟩ := by rw [e8, hXv]
          obtain ⟨gR, cR, hRr, _⟩ := hst4.sep.form hRw4.r5 |>.2 |>.resolve_left (by rintro ⟨_, h2⟩; simp at h2)
          have hRr : v.reached = .slice (some ⟨gR, 0, none⟩) (J.length + 2) cR := hRr
          have e5' : K4 5 = some ⟨4, 1, J.length + 2, .slice (some ⟨gR, 0, none⟩) (J.length + 2) cR, .bool false :: List.replicate (J.length + 1) (.bool true)⟩ := by rw [hRw4.r5, hRr]
          have hfp := b8 p
          have m0 : wc.cell? ⟨bx, 0, none⟩ = some (.pointer (some ⟨c.C, 0, none⟩)) := hbx4.cell? 0
          have m18 : wc.cell? ⟨c.C, 18, none⟩ = some (.pointer (some ⟨c.TT, 0, none⟩)) := hst4.hC.cell? 18
          have m15 : wc.cell? ⟨c.C, 15, none⟩ = some (.pointer (some ⟨c.BT, 0, none⟩)) := hst4.hC.cell? 15
          have m3 : wc.cell? ⟨c.TT, 3, none⟩ = some (.slice (some ⟨gX, 0, none⟩) (J.length + 2) cX) := by rw [← hXv]; exact hst4.hTT.cell? 3
          have mb : wc.cell? ⟨c.BT, 0, none⟩ = some (.slice (some ⟨gR, 0, none⟩) (J.length + 2) cR) := by rw [← hRr]; exact hst4.hBT.cell? 0
          have mp := hst4.sep.cell e8' (rowOf_get f8 hpM)
          have fp := hst4.sep.free e8' p
          have mr := hst4.sep.cell e5' (reached_get hq1 hqM)
          have hBx : (B : Int) ≤ 9000 := by omega
          have HB8 : Hid (∀ y, -1 ≤ f8 y ∧ f8 y ≤ ((B + 1 : Nat) : Int)) := b8
          have HFA : Hid (∀ n, n < 1000 → n ≠ 2 → n ≠ 3 → n ≠ 300 + p → n ≠ 400 + q → K4 n = K n) := hfrA
          clear hRw4 hLk b8 hfrA hfr4 hE4 hE3
          by_cases hge : (ix : Int) ≤ f8 p
          · have hs5 := hst4.sep.put e8' (j := p) (.int .i64 (f8 p + 1))
            rw [rowOf_set] at hs5
            have hst5 := hst4.grow hs5 (upd_ty hst4.ty _ _ ty3) (r := some gX) ⟨rfl, rfl, rfl, by simp, fun b _ hb => Below.heap_setCell _ _ _ _ (fun e => hb (by rw [e]))⟩ (fun b hb => ⟨8, _, e8', hb⟩)
            have hbl5 : Below c.base w (wc.setCell ⟨gX, p, none⟩ (.int .i64 (f8 p + 1))) := hbl4.setCell (hst4.sep.lt e8' gX rfl).1 _
            have hsz5 : c.base ≤ (wc.setCell ⟨gX, p, none⟩ (.int .i64 (f8 p + 1))).heap.size := by simpa using hsz4
            have hR5 : Rw c (upd K4 8 ⟨3, 1, J.length + 2, .slice (some ⟨gX, 0, none⟩) (J.length + 2) cX, rowOf (fun y => if y = p then f8 p + 1 else f8 y) (J.length + 2)⟩) v D J O' I' L (B + 2) m := by
              have hq4 := HRw4.out
              obtain ⟨f6, q6, b6⟩ := hq4.r6
              obtain ⟨pk, q14, b14⟩ := hq4.r14
              obtain ⟨gd, q18, b18, p18⟩ := hq4.r18
              refine hq4.turn (fun k h1 h2 h3 h4 h5 h6 => by rw [upd_other _ _ h4]) rfl (by omega) ⟨f6, by rw [upd_other _ _ (by omega)]; exact q6, fun y => by have := b6 y; omega⟩ (by rw [upd_other _ _ (by omega)]; exact hq4.r7) ⟨fun y => if y = p then f8 p + 1 else f8 y, by rw [upd_same]; exact congrArg _ (by rw [← hXv]), fun y => ?_⟩ ⟨pk, by rw [upd_other _ _ (by omega)]; exact q14, by omega⟩ ⟨gd, by rw [upd_other _ _ (by omega)]; exact q18, by omega, p18⟩
              have := HB8.out y
              have := HB8.out p
              show -1 ≤ (if y = p then f8 p + 1 else f8 y) ∧ (if y = p then f8 p + 1 else f8 y) ≤ ((B + 2 : Nat) : Int)
              split
              · omega
              · omega
            have E5 : upd K4 8 ⟨3, 1, J.length + 2, .slice (some ⟨gX, 0, none⟩) (J.length + 2) cX, rowOf (fun y => if y = p then f8 p + 1 else f8 y) (J.length + 2)⟩ 5 = some ⟨4, 1, J.length + 2, .slice (some ⟨gR, 0, none⟩) (J.length + 2) cR, .bool false :: List.replicate (J.length + 1) (.bool true)⟩ := by rw [upd_other _ _ (by omega)]; exact e5'
            have hbx5 : Blk (wc.setCell ⟨gX, p, none⟩ (.int .i64 (f8 p + 1))) bx #[.pointer (some ⟨c.C, 0, none⟩)] 28 := hbx4.other (fun e => hst4.sep.neTy hbx4 e8' (show (3 : Nat) ≠ 28 by decide) (by rw [e]; rfl)) _
            generalize upd K4 8 ⟨3, 1, J.length + 2, .slice (some ⟨gX, 0, none⟩) (J.length + 2) cX, rowOf (fun y => if y = p then f8 p + 1 else f8 y) (J.length + 2)⟩ = K5 at hst5 hR5 E5
            go_upto_region 8 with fail
            generalize wc.setCell ⟨gX, p, none⟩ (.int .i64 (f8 p + 1)) = wz at hst5 hbl5 hsz5 hbx5 ⊢
            have b0 : wz.cell? ⟨bx, 0, none⟩ = some (.pointer (some ⟨c.C, 0, none⟩)) := hbx5.cell? 0
            have b15 : wz.cell? ⟨c.C, 15, none⟩ = some (.pointer (some ⟨c.BT, 0, none⟩)) := hst5.hC.cell? 15
            have bb : wz.cell? ⟨c.BT, 0, none⟩ = some (.slice (some ⟨gR, 0, none⟩) (J.length + 2) cR) := by rw [← hRr]; exact hst5.hBT.cell? 0
            have br := hst5.sep.cell E5 (reached_get hq1 hqM)
            have HR5 : Hid (Rw c K5 v D J O' I' L (B + 2) m) := hR5
            clear hR5
            go_wp2_with (go_at_call 49; refine Calls.mono (leadsThrough_calls c K5 D v wz J O' I' L (B + 2) m p q hst5 HR5.out hsz5 (by omega) hp2 hpM hqM) ?_; rintro e w7 ⟨rfl, hbl7, K7, v7, hst7, hw7, hR7⟩)
            go_end0
            exact ⟨rfl, hbl5.trans hbl7, K7, v7, O', I', hst7, hw7, hR7, HLK.out⟩
          · have hR5 : Rw c K4 v D J O' I' L (B + 2) m := by
              have hq4 := HRw4.out
              obtain ⟨f6, q6, b6⟩ := hq4.r6
              obtain ⟨pk, q14, b14⟩ := hq4.r14
              obtain ⟨gd, q18, b18, p18⟩ := hq4.r18
              exact hq4.turn (fun k h1 h2 h3 h4 h5 h6 => rfl) rfl (by omega) ⟨f6, q6, fun y => by have := b6 y; omega⟩ hq4.r7 ⟨f8, e8, fun y => by have := HB8.out y; omega⟩ ⟨pk, q14, by omega⟩ ⟨gd, q18, by omega, p18⟩
            have hge' : f8 p < (ix : Int) := by omega
            go_upto_region 8 with fail
            obtain ⟨wz, hwz⟩ : ∃ wz, wz = wc := ⟨_, rfl⟩
            obtain ⟨K5, hK5⟩ : ∃ K5, K5 = K4 := ⟨_, rfl⟩
            have hst5 : St c K5 v wz := by rw [hK5, hwz]; exact hst4
            have hbx5 : Blk wz bx #[.pointer (some ⟨c.C, 0, none⟩)] 28 := by rw [hwz]; exact hbx4
            have hbl5 : Below c.base w wz := by rw [hwz]; exact hbl4
            have hsz5 : c.base ≤ wz.heap.size := by rw [hwz]; exact hsz4
            have E5 : K5 5 = some ⟨4, 1, J.length + 2, .slice (some ⟨gR, 0, none⟩) (J.length + 2) cR, .bool false :: List.replicate (J.length + 1) (.bool true)⟩ := by rw [hK5]; exact e5'
            rw [← hK5] at hR5
            rw [← hwz]
            clear hwz
            have b0 : wz.cell? ⟨bx, 0, none⟩ = some (.pointer (some ⟨c.C, 0, none⟩)) := hbx5.cell? 0
            have b15 : wz.cell? ⟨c.C, 15, none⟩ = some (.pointer (some ⟨c.BT, 0, none⟩)) := hst5.hC.cell? 15
            have bb : wz.cell? ⟨c.BT, 0, none⟩ = some (.slice (some ⟨gR, 0, none⟩) (J.length + 2) cR) := by rw [← hRr]; exact hst5.hBT.cell? 0
            have br := hst5.sep.cell E5 (reached_get hq1 hqM)
            have HR5 : Hid (Rw c K5 v D J O' I' L (B + 2) m) := hR5
            clear hR5
            go_wp2_with (go_at_call 49; refine Calls.mono (leadsThrough_calls c K5 D v wz J O' I' L (B + 2) m p q hst5 HR5.out hsz5 (by omega) hp2 hpM hqM) ?_; rintro e w7 ⟨rfl, hbl7, K7, v7, hst7, hw7, hR7⟩)
            go_end0
            exact ⟨rfl, hbl5.trans hbl7, K7, v7, O', I', hst7, hw7, hR7, HLK.out⟩
end Go.Proofs.Ybulkuoc
