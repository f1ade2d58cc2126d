import Derived.Test.YbulkuocRw
import Derived.Shelf.Spec.SlicesInsertGrow
namespace Go.Proofs.Ybulkuoc
open Go.RowKit Go.Shelf

/-- The shelf's numbers and this program's. -/
def rhoI : Ren := ⟨fun x => if x = 21 then 48 else if x = 27 then 69 else if x = 28 then 70 else if x = 35 then 88 else if x = 39 then 96 else x, fun t => if t = 22 then 26 else t, fun x => x⟩
theorem laysI : Lays2.n21 Yba.prog rhoI where
  mixed := by kernel_rfl
  f21 := by kernel_rfl
  f27 := by kernel_rfl
  f28 := by kernel_rfl
  f35 := by kernel_rfl
  f39 := by kernel_rfl
  t0 := by kernel_rfl
  a0 := fun w => by kernel_rfl
  z0 := fun w => by kernel_rfl
  v0 := fun w => by kernel_rfl
  t3 := by kernel_rfl
  a3 := fun w => by kernel_rfl
  z3 := fun w => by kernel_rfl
  v3 := fun w => by kernel_rfl
  t4 := by kernel_rfl
  a4 := fun w => by kernel_rfl
  z4 := fun w => by kernel_rfl
  v4 := fun w => by kernel_rfl
  t22 := by kernel_rfl
  a22 := fun w => by kernel_rfl
  z22 := fun w => by kernel_rfl
  v22 := fun w => by kernel_rfl
  i3 := by kernel_rfl

/-- Cells written one behind the other. -/
def setA (cs : Array Value) : Nat → List Value → Array Value
  | _, [] => cs
  | o, v :: r => setA (cs.setIfInBounds o v) (o + 1) r
theorem setA_size (cs : Array Value) : ∀ (vs : List Value) (o : Nat), (setA cs o vs).size = cs.size
  | [], _ => rfl
  | v :: r, o => by rw [setA, setA_size _ r]; simp
theorem setA_out : ∀ (vs : List Value) (cs : Array Value) (o j : Nat), (j < o ∨ o + vs.length ≤ j) → (setA cs o vs)[j]? = cs[j]?
  | [], _, _, _, _ => rfl
  | v :: r, cs, o, j, h => by
    simp only [List.length_cons] at h
    rw [setA, setA_out r _ _ _ (by omega), Array.getElem?_setIfInBounds_ne (by omega)]
theorem setA_in : ∀ (vs : List Value) (cs : Array Value) (o j : Nat), j < vs.length → o + j < cs.size → (setA cs o vs)[o + j]? = vs[j]?
  | [], _, _, _, h, _ => by simp at h
  | v :: r, cs, o, 0, _, h => by
    rw [setA, setA_out r _ _ _ (by omega)]
    simp at h
    simp [h]
  | v :: r, cs, o, j + 1, h, h2 => by
    simp only [List.length_cons] at h
    have := setA_in r (cs.setIfInBounds o v) (o + 1) j (by omega) (by simp; omega)
    rw [setA, show o + (j + 1) = o + 1 + j by omega, this]
    simp
theorem Blk.sets {b : Nat} {t : TypeId} : ∀ (vs : List Value) (o : Nat) {w : World} {cs : Array Value}, Blk w b cs t → Blk (w.setCells b o vs) b (setA cs o vs) t
  | [], _, _, _, h => h
  | v :: r, o, _, _, h => Blk.sets r (o + 1) (h.set o v)
theorem setCells_heap {b k : Nat} (hk : k ≠ b) : ∀ (vs : List Value) (o : Nat) (w : World), (w.setCells b o vs).heap[k]? = w.heap[k]?
  | [], _, _ => rfl
  | v :: r, o, w => by
    rw [World.setCells, setCells_heap hk r]
    exact Below.heap_setCell _ _ _ _ hk
theorem setCells_os (b : Nat) : ∀ (vs : List Value) (o : Nat) (w : World), (w.setCells b o vs).os = w.os ∧ (w.setCells b o vs).tape = w.tape ∧ (w.setCells b o vs).output = w.output ∧ (w.setCells b o vs).heap.size = w.heap.size
  | [], _, _ => ⟨rfl, rfl, rfl, rfl⟩
  | v :: r, o, w => by
    obtain ⟨h1, h2, h3, h4⟩ := setCells_os b r (o + 1) (w.setCell ⟨b, o, none⟩ v)
    exact ⟨h1, h2, h3, by rw [World.setCells, h4]; simp⟩

theorem ins_list {l : List Nat} {i q : Nat} (hi : i ≤ l.length) (j : Nat) : (ints (l.take i ++ q :: l.drop i))[j]? = if j < i then (ints l)[j]? else if j = i then some (.int .i64 (q : Int)) else (ints l)[j - 1]? := by
  rw [ints_get, ints_get, ints_get]
  have hl : (l.take i).length = i := by simp; omega
  by_cases h1 : j < i
  · rw [if_pos h1, List.getElem?_append_left (by omega), List.getElem?_take, if_pos h1]
  · rw [if_neg h1, List.getElem?_append_right (by omega), hl]
    by_cases h2 : j = i
    · subst h2; simp
    · rw [if_neg h2]
      obtain ⟨k, hk⟩ : ∃ k, j - i = k + 1 := ⟨j - i - 1, by omega⟩
      rw [hk, List.getElem?_cons_succ, List.getElem?_drop, show i + k = j - 1 by omega]

set_option maxRecDepth 20000 in
set_option maxHeartbeats 3200000 in
theorem insert_end_calls (c : Tc) (K : Nat → Option Ent) (v : Tv) (w : World) (hS : St c K v w) (hb : c.base ≤ w.heap.size) (k kt q vb vc : Nat) (x : Value) (l : List Nat) (hk : K k = some ⟨3, 1, l.length, x, ints l⟩) (hkt : K kt = some ⟨3, 1, 1, .slice (some ⟨vb, 0, none⟩) 1 vc, [.int .i64 (q : Int)]⟩) (hn : l.length ≤ 10000) :
    Calls Yba.prog 48 #[x, .int .i64 (l.length : Nat), .slice (some ⟨vb, 0, none⟩) 1 vc] w fun e w' => ∃ g cc, e = .returned (.slice (some ⟨g, 0, none⟩) (l.length + 1) cc) ∧ Below c.base w w' ∧ w.grownBy w' x.ownBlock ∧ St c (upd K k ⟨3, 1, l.length + 1, .slice (some ⟨g, 0, none⟩) (l.length + 1) cc, ints (l ++ [q])⟩) v w' := by
  have cq := hS.sep.cell hkt (j := 0) rfl
  rcases (hS.sep.form hk).2 with ⟨e1, e2⟩ | ⟨g, cc, e1, _, _, h1, h2⟩
  · have e1' : x = .slice none 0 0 := e1
    have e2' : l.length = 0 := e2
    subst e1'
    rw [e2'] at hk ⊢
    have e3 : l = [] := List.length_eq_zero_iff.1 e2'
    subst e3
    go_enter Yba.func48, Yba.ntmps48
    go_wp2_with (first | (at_builtin; refine wpList_app1 _ rfl _ _ 26 rfl hS.sep hk Yba.underlying26 info3 rfl rfl vb vc (.int .i64 (q : Int)) rfl cq rfl (by omega) (by omega) hb ?_; intro g2 c2 w2 hs2 hg2 hb2) | fail)
    go_ret
    exact ⟨_, _, rfl, hb2, hg2, by simpa [ints] using hS.grow hs2 (upd_ty hS.ty _ _ ty3) hg2 (fun b hb => ⟨k, _, hk, hb⟩)⟩
  · have e1' : x = .slice (some ⟨g, 0, none⟩) l.length cc := e1
    have h1' : (l.length : Int) ≤ (cc : Int) := by have : l.length ≤ cc := h1; omega
    subst e1'
    go_enter Yba.func48, Yba.ntmps48
    go_wp2_with (first | (at_builtin; refine wpList_app1 _ rfl _ _ 26 rfl hS.sep hk Yba.underlying26 info3 rfl rfl vb vc (.int .i64 (q : Int)) rfl cq rfl (by omega) (by omega) hb ?_; intro g2 c2 w2 hs2 hg2 hb2) | fail)
    all_goals
      go_ret
      exact ⟨_, _, rfl, hb2, hg2, by simpa [ints] using hS.grow hs2 (upd_ty hS.ty _ _ ty3) hg2 (fun b hb => ⟨k, _, hk, hb⟩)⟩

theorem insert_mid_calls (c : Tc) (K : Nat → Option Ent) (v : Tv) (w : World) (hS : St c K v w) (hb : c.base ≤ w.heap.size) (k kt i q vb vc : Nat) (x : Value) (l : List Nat) (hk : K k = some ⟨3, 1, l.length, x, ints l⟩) (hkt : K kt = some ⟨3, 1, 1, .slice (some ⟨vb, 0, none⟩) 1 vc, [.int .i64 (q : Int)]⟩) (hkk : k ≠ kt) (hi : i < l.length) (hn : l.length ≤ 10000) :
    Calls Yba.prog 48 #[x, .int .i64 (i : Nat), .slice (some ⟨vb, 0, none⟩) 1 vc] w fun e w' => ∃ g cc, e = .returned (.slice (some ⟨g, 0, none⟩) (l.length + 1) cc) ∧ Below c.base w w' ∧ w.grownBy w' x.ownBlock ∧ St c (upd K k ⟨3, 1, l.length + 1, .slice (some ⟨g, 0, none⟩) (l.length + 1) cc, ints (l.take i ++ q :: l.drop i)⟩) v w' := by
  obtain ⟨hxl, hx⟩ := hS.sep.own k _ hk
  obtain ⟨htl, ht⟩ := hS.sep.own kt _ hkt
  rcases hx with ⟨_, e2⟩ | ⟨g, cap, cur, e1, hg, hblk, hnc, hcm, hcs, htk⟩
  · have : l.length = 0 := e2
    omega
  rcases ht with ⟨_, e2⟩ | ⟨g', cap', cur', e1', hg', hblk', hnc', hcm', hcs', htk'⟩
  · cases e2
  simp only [Value.slice.injEq, Option.some.injEq, Addr.mk.injEq] at e1'
  obtain ⟨⟨rfl, _⟩, _, rfl⟩ := e1'
  have e1x : x = .slice (some ⟨g, 0, none⟩) l.length cap := e1
  subst e1x
  simp only [Nat.mul_one] at hcs hcs' htk htk'
  have hnc2 : l.length ≤ cap := hnc
  have hnc3 : 1 ≤ vc := hnc'
  have hvb : vb ≠ g := fun e => hS.sep.sep k kt _ _ hkk hk hkt g rfl (by rw [← e]; rfl)
  have hcl : (ints l).length = l.length := ints_length l
  have hcur : ∀ j, j < l.length → cur[j]? = (ints l)[j]? := by
    intro j hj
    have : (cur.toList.take l.length)[j]? = (ints l)[j]? := by rw [htk]
    rw [List.getElem?_take, if_pos hj] at this
    simpa using this
  have hB : Blk w g cur 3 := hblk
  have hB' : Blk w vb cur' 3 := hblk'
  have hcsz : cur.size = cap := hcs
  have hcells : ∀ j u, (ints l)[j]? = some u → w.cell? ⟨g, 0 + j, none⟩ = some u := by
    intro j u hu
    have hj := (List.getElem?_eq_some_iff.1 hu).1
    rw [Nat.zero_add, hB.cell? j, hcur j (by omega), hu]
  have hvs : ∀ j u, ([.int .i64 (q : Int)] : List Value)[j]? = some u → w.cell? ⟨vb, 0 + j, none⟩ = some u := by
    intro j u hu
    cases j with
    | zero => have := hS.sep.cell hkt hu; simpa using this
    | succ j => simp at hu
  have hone : ∀ u ∈ ints l, u.oneCell' = true := by
    intro u hu
    obtain ⟨y, _, rfl⟩ := List.mem_map.1 hu
    rfl
  have hl1 : (ints (l.take i ++ q :: l.drop i)).length = l.length + 1 := by simp [ints]; omega
  have h1v : ∀ u ∈ ([.int .i64 (q : Int)] : List Value), u.oneCell' = true := by
    intro u hu
    rw [List.mem_singleton.1 hu]
    rfl
  have hshape : ∀ (b : Nat) (cs : Array Value), Blk w b cs 3 → w.shape? b = some (3, cs.size) := by
    intro b cs hb
    unfold Blk at hb
    simp [World.shape?, hb]
  by_cases hroom : l.length + 1 ≤ cap
  · refine Calls.mono (Any2.slices_Insert_int_shift laysI g 0 l.length cap i vb 0 1 vc (ints l) [.int .i64 (q : Int)] w hi (by omega) hroom (by unfold maxLen at hcm; exact hcm) hvb hcl rfl hcells (fun j hj => by rw [hB.cell?, Nat.zero_add]; simp; omega) (fun j hj => hB.free _) hvs hone h1v 3 3 cur'.size cur.size (hshape _ _ hB') (hshape _ _ hB) (by omega) (hB'.free _) (hB'.free _)) ?_
    rintro e w' ⟨rfl, rfl⟩
    have o1 := setCells_os g (List.drop i (ints l)) (0 + (i + 1)) w.drew
    have o2 := setCells_os g [.int .i64 (q : Int)] (0 + i) (w.drew.setCells g (0 + (i + 1)) (List.drop i (ints l)))
    have hB2 := Blk.sets [.int .i64 (q : Int)] (0 + i) (Blk.sets (List.drop i (ints l)) (0 + (i + 1)) hB.drew)
    have hgr : w.grownBy ((w.drew.setCells g (0 + (i + 1)) (List.drop i (ints l))).setCells g (0 + i) [.int .i64 (q : Int)]) (some g) := by
      refine ⟨o2.1.trans o1.1, o2.2.1.trans o1.2.1, o2.2.2.1.trans o1.2.2.1, by rw [o2.2.2.2, o1.2.2.2]; exact Nat.le_refl _, fun b _ hbn => ?_⟩
      have hbg : b ≠ g := fun e => hbn (by rw [e])
      rw [setCells_heap hbg, setCells_heap hbg]
      rfl
    have hown : ((w.drew.setCells g (0 + (i + 1)) (List.drop i (ints l))).setCells g (0 + i) [.int .i64 (q : Int)]).ownsRow c.base 3 1 (.slice (some ⟨g, 0, none⟩) (l.length + 1) cap) (l.length + 1) (ints (l.take i ++ q :: l.drop i)) := by
      refine ⟨by rw [hl1]; simp, .inr ⟨g, cap, _, rfl, hg, hB2, hroom, hcm, by rw [setA_size, setA_size, Nat.mul_one]; exact hcs, ?_⟩⟩
      rw [Nat.mul_one]
      apply List.ext_getElem?
      intro j
      rw [List.getElem?_take, ins_list (by omega)]
      by_cases hj : j < l.length + 1
      · rw [if_pos hj, Array.getElem?_toList, Nat.zero_add, Nat.zero_add]
        by_cases j1 : j < i
        · rw [if_pos j1, setA_out _ _ _ _ (.inl j1), setA_out _ _ _ _ (.inl (by omega))]
          exact hcur j (by omega)
        · rw [if_neg j1]
          by_cases j2 : j = i
          · subst j2
            rw [if_pos rfl]
            have := setA_in [.int .i64 (q : Int)] (setA cur (j + 1) (List.drop j (ints l))) j 0 (by simp) (by rw [setA_size]; omega)
            simpa using this
          · rw [if_neg j2, setA_out _ _ _ _ (.inr (by simp; omega))]
            obtain ⟨m, rfl⟩ : ∃ m, j = i + 1 + m := ⟨j - (i + 1), by omega⟩
            rw [setA_in _ _ _ _ (by simp; omega) (by omega), List.getElem?_drop, show i + 1 + m - 1 = i + m by omega]
      · rw [if_neg hj, if_neg (by omega), if_neg (by omega), List.getElem?_eq_none (by omega)]
    refine ⟨g, cap, rfl, (Below.refl _ _).grown hgr hb (fun b hb' => by cases hb'; exact hg), hgr, ?_⟩
    exact hS.grow (hS.sep.turn hk hown hgr (fun b hb' => .inl hb')) (upd_ty hS.ty _ _ ty3) hgr (fun b hb' => ⟨k, _, hk, hb'⟩)
  · refine Calls.mono (Any2.slices_Insert_int_grow laysI g 0 l.length cap i vb 0 1 vc (ints l) [.int .i64 (q : Int)] w hi (by omega) hnc2 (by omega) (by omega) hcl rfl hcells hvs hone h1v) ?_
    have ht3 : rhoI.t 3 = 3 := rfl
    rw [ht3]
    generalize hgc : grownCap w (l.length + 1) cap 3 = gc
    have hge : l.length + 1 ≤ gc := by rw [← hgc]; exact grownCap_ge _ _ _ _
    have hle : gc ≤ maxLen := by rw [← hgc]; exact grownCap_le_maxLen _ _ _ _ (by unfold maxLen; omega)
    rintro e w' ⟨rfl, rfl⟩
    generalize hcu : (((ints l).take i).toArray ++ Builtin.zeroCells (Value.int .i64 0).cells (l.length + 1 - i) ++ Builtin.zeroCells (Value.int .i64 0).cells (gc - (l.length + 1))) = cu
    have hcus : cu.size = gc := by
      rw [← hcu]
      simp [size_zeroCells, ints_length, Value.cells]
      omega
    have hcul : ∀ j, j < i → cu[j]? = (ints l)[j]? := by
      intro j hj
      rw [← hcu, Array.append_assoc, Array.getElem?_append_left (by simp [ints_length]; omega)]
      simp [hj]
    have o0 := Blk.new w cu 3
    have o1 := setCells_os w.heap.size [.int .i64 (q : Int)] i (w.alloc (.cells cu 3)).drew
    have o2 := setCells_os w.heap.size (List.drop i (ints l)) (i + 1) ((w.alloc (.cells cu 3)).drew.setCells w.heap.size i [.int .i64 (q : Int)]).drew
    have hB2 := Blk.sets (List.drop i (ints l)) (i + 1) (Blk.sets [.int .i64 (q : Int)] i o0.drew).drew
    have hgr : w.grownBy ((((w.alloc (.cells cu 3)).drew.setCells w.heap.size i [.int .i64 (q : Int)]).drew).setCells w.heap.size (i + 1) (List.drop i (ints l))) none := by
      refine ⟨o2.1.trans o1.1, o2.2.1.trans o1.2.1, o2.2.2.1.trans o1.2.2.1, ?_, fun b hbl _ => ?_⟩
      · rw [o2.2.2.2]
        show w.heap.size ≤ ((w.alloc (.cells cu 3)).drew.setCells w.heap.size i [.int .i64 (q : Int)]).heap.size
        rw [o1.2.2.2]
        show w.heap.size ≤ (w.alloc (.cells cu 3)).heap.size
        simp
      · rw [setCells_heap (by omega)]
        show ((w.alloc (.cells cu 3)).drew.setCells w.heap.size i [.int .i64 (q : Int)]).heap[b]? = _
        rw [setCells_heap (by omega)]
        exact Below.heap_alloc _ _ _ hbl
    have hgr' : w.grownBy ((((w.alloc (.cells cu 3)).drew.setCells w.heap.size i [.int .i64 (q : Int)]).drew).setCells w.heap.size (i + 1) (List.drop i (ints l))) (some g) := ⟨hgr.os, hgr.tape, hgr.output, hgr.size, fun b hb' _ => hgr.block b hb' (by simp)⟩
    have hown : ((((w.alloc (.cells cu 3)).drew.setCells w.heap.size i [.int .i64 (q : Int)]).drew).setCells w.heap.size (i + 1) (List.drop i (ints l))).ownsRow c.base 3 1 (.slice (some ⟨w.heap.size, 0, none⟩) (l.length + 1) gc) (l.length + 1) (ints (l.take i ++ q :: l.drop i)) := by
      refine ⟨by rw [hl1]; simp, .inr ⟨w.heap.size, gc, _, rfl, hb, hB2, hge, hle, by rw [setA_size, setA_size, Nat.mul_one]; exact hcus, ?_⟩⟩
      rw [Nat.mul_one]
      apply List.ext_getElem?
      intro j
      rw [List.getElem?_take, ins_list (by omega)]
      by_cases hj : j < l.length + 1
      · rw [if_pos hj, Array.getElem?_toList]
        by_cases j1 : j < i
        · rw [if_pos j1, setA_out _ _ _ _ (.inl (by omega)), setA_out _ _ _ _ (.inl (by omega))]
          exact hcul j j1
        · rw [if_neg j1]
          by_cases j2 : j = i
          · subst j2
            rw [if_pos rfl, setA_out _ _ _ _ (.inl (by omega))]
            have := setA_in [.int .i64 (q : Int)] cu j 0 (by simp) (by omega)
            simpa using this
          · rw [if_neg j2]
            obtain ⟨m, rfl⟩ : ∃ m, j = i + 1 + m := ⟨j - (i + 1), by omega⟩
            rw [setA_in _ _ _ _ (by simp; omega) (by rw [setA_size]; omega), List.getElem?_drop, show i + 1 + m - 1 = i + m by omega]
      · rw [if_neg hj, if_neg (by omega), if_neg (by omega), List.getElem?_eq_none (by omega)]
    refine ⟨w.heap.size, gc, rfl, (Below.refl _ _).grown hgr hb (fun b hb' => by cases hb'), hgr', ?_⟩
    exact hS.grow (hS.sep.turn hk hown hgr' (fun b hb' => .inr (by simp [Value.ownBlock] at hb'; omega))) (upd_ty hS.ty _ _ ty3) hgr' (fun b hb' => ⟨k, _, hk, hb'⟩)

/-- slices.Insert of one int. -/
theorem insert_calls (c : Tc) (K : Nat → Option Ent) (v : Tv) (w : World) (hS : St c K v w) (hb : c.base ≤ w.heap.size) (k kt i q vb vc : Nat) (x : Value) (l : List Nat) (hk : K k = some ⟨3, 1, l.length, x, ints l⟩) (hkt : K kt = some ⟨3, 1, 1, .slice (some ⟨vb, 0, none⟩) 1 vc, [.int .i64 (q : Int)]⟩) (hkk : k ≠ kt) (hi : i ≤ l.length) (hn : l.length ≤ 10000) :
    Calls Yba.prog 48 #[x, .int .i64 (i : Nat), .slice (some ⟨vb, 0, none⟩) 1 vc] w fun e w' => ∃ g cc, e = .returned (.slice (some ⟨g, 0, none⟩) (l.length + 1) cc) ∧ Below c.base w w' ∧ w.grownBy w' x.ownBlock ∧ St c (upd K k ⟨3, 1, l.length + 1, .slice (some ⟨g, 0, none⟩) (l.length + 1) cc, ints (l.take i ++ q :: l.drop i)⟩) v w' := by
  by_cases h : i < l.length
  · exact insert_mid_calls c K v w hS hb k kt i q vb vc x l hk hkt hkk h hn
  · obtain rfl : i = l.length := by omega
    rw [List.take_length, List.drop_length]
    exact insert_end_calls c K v w hS hb k kt q vb vc x l hk hkt hn
end Go.Proofs.Ybulkuoc
