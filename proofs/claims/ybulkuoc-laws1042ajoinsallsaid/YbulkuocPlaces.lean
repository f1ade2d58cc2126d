/- placesOf. -/
import Derived.Test.YbulkuocJunctions
namespace Go.Proofs.Ybulkuoc
open Go.RowKit

/-- The place of node u: node 0's is the tail's. -/
def plOf (pl : Nat → Nat) (u : Nat) : Option Nat := if u = 0 then some 1 else if pl u = 0 then none else some (pl u - 1)
def plRow (pl : Nat → Nat) (N : Nat) : List Value := (List.range N).map (fun u => .int .i32 (pl u : Nat))
theorem plRow_get (pl : Nat → Nat) {N u : Nat} (h : u < N) : (plRow pl N)[u]? = some (.int .i32 (pl u : Nat)) := by simp [plRow, h]
def keepAt (p : Int) (q : Nat) : Option Nat := if (q : Int) = p then none else some q
/-- The places of the nodes l, without p. -/
def plsOf (pl : Nat → Nat) (p : Int) (l : List Nat) : List Nat := l.filterMap (fun u => (plOf pl u).bind (keepAt p))
theorem plsOf_length (pl : Nat → Nat) (p : Int) (l : List Nat) : (plsOf pl p l).length ≤ l.length := List.length_filterMap_le _ _
theorem plsOf_snoc {pl : Nat → Nat} {p : Int} {l : List Nat} {i u : Nat} (h : l[i]? = some u) : plsOf pl p (l.take (i + 1)) = plsOf pl p (l.take i) ++ ((plOf pl u).bind (keepAt p)).toList := by
  rw [List.take_add_one, h]
  simp only [plsOf, List.filterMap_append, Option.toList]
  cases hq : (plOf pl u).bind (keepAt p) <;> simp [hq]
theorem mem_plsOf {pl : Nat → Nat} {p : Int} {l : List Nat} {q : Nat} : q ∈ plsOf pl p l ↔ ∃ u ∈ l, plOf pl u = some q ∧ (q : Int) ≠ p := by
  simp only [plsOf, List.mem_filterMap]
  constructor
  · rintro ⟨u, hu, h⟩
    refine ⟨u, hu, ?_⟩
    cases h2 : plOf pl u with
    | none => rw [h2] at h; simp at h
    | some x =>
      rw [h2] at h
      simp only [Option.bind_some, keepAt] at h
      split at h
      · cases h
      · cases h; exact ⟨rfl, by assumption⟩
  · rintro ⟨u, hu, h1, h2⟩
    exact ⟨u, hu, by rw [h1]; simp [keepAt, h2]⟩
theorem plsOf_nodup {pl : Nat → Nat} {p : Int} {l : List Nat} (hnd : l.Nodup) (hinj : ∀ u ∈ l, ∀ u' ∈ l, ∀ q, plOf pl u = some q → plOf pl u' = some q → u = u') : (plsOf pl p l).Nodup := by
  unfold plsOf
  induction l with
  | nil => simp
  | cons a l ih =>
    have hnd' := List.nodup_cons.1 hnd
    have ih' := ih hnd'.2 (fun u hu u' hu' => hinj u (List.mem_cons_of_mem _ hu) u' (List.mem_cons_of_mem _ hu'))
    rw [List.filterMap_cons]
    split
    · exact ih'
    · rename_i q hq
      refine List.nodup_cons.2 ⟨?_, ih'⟩
      intro hm
      obtain ⟨u, hu, h1, h2⟩ := mem_plsOf.1 (show q ∈ plsOf pl p l from hm)
      have h3 : plOf pl a = some q := by
        cases h4 : plOf pl a with
        | none => rw [h4] at hq; simp at hq
        | some x =>
          rw [h4] at hq
          simp only [Option.bind_some, keepAt] at hq
          split at hq
          · cases hq
          · cases hq; rfl
      have := hinj a (List.mem_cons_self ..) u (List.mem_cons_of_mem _ hu) q h3 h1
      subst this
      exact hnd'.1 hu

theorem rep_get {M j : Nat} (x : Value) (h : j < M) : (List.replicate M x)[j]? = some x := by rw [List.getElem?_replicate, if_pos h]
theorem keepAt_none {p : Int} {q : Nat} (h : (q : Int) = p) : keepAt p q = none := by simp [keepAt, h]
theorem keepAt_some {p : Int} {q : Nat} (h : ¬ (q : Int) = p) : keepAt p q = some q := by simp [keepAt, h]

set_option maxRecDepth 20000 in
set_option maxHeartbeats 3200000 in
theorem placesOf_calls (c : Tc) (K : Nat → Option Ent) (v : Tv) (w : World) (h : St c K v w) (hb : c.base ≤ w.heap.size) (k ks M Mg gg cg gp cp gI cI : Nat) (p : Int) (x : Value) (l I : List Nat) (pl : Nat → Nat)
    (hks : K ks = some ⟨3, 1, l.length, x, ints l⟩) (hl : l.length ≤ 8) (hlt : ∀ y ∈ l, y < c.N) (hk : k ≠ ks ∧ k ≠ 0 ∧ k ≠ 4 ∧ k ≠ 1) (hpl : c.pl = .slice (some ⟨gp, 0, none⟩) c.N cp) (h0 : K 0 = some ⟨21, 1, c.N, c.pl, plRow pl c.N⟩) (hgo : v.gone = .slice (some ⟨gg, 0, none⟩) Mg cg) (h4 : K 4 = some ⟨4, 1, Mg, v.gone, List.replicate Mg (.bool false)⟩) (hM : 2 ≤ Mg) (hMp : ∀ u ∈ l, pl u ≤ Mg) (hMg : Mg ≤ M) (hM16 : M ≤ 16)
    (hids : v.ids = .slice (some ⟨gI, 0, none⟩) M cI) (h1 : K 1 = some ⟨3, 1, M, v.ids, ints I⟩) (hI : I.length = M) (hnd : (plsOf pl p l).Nodup) :
    Calls Yba.prog 26 #[.pointer (some ⟨c.C, 0, none⟩), x, .int .i64 p] w fun e w' => ∃ y, e = .returned y ∧ Below c.base w w' ∧ ∃ l', l'.Perm (plsOf pl p l) ∧ St c (upd K k ⟨3, 1, l'.length, y, ints l'⟩) v w' := by
  obtain ⟨ra, rc, rfl, hra⟩ := h.sep.shape hks
  obtain ⟨k1, k2, k3, k4⟩ := hk
  have HLT : Hid (∀ y ∈ l, y < c.N) := hlt
  have HMP : Hid (∀ u ∈ l, pl u ≤ Mg) := hMp
  have HND : Hid (plsOf pl p l).Nodup := hnd
  clear hlt hMp hnd
  go_enter Yba.func26, Yba.ntmps26
  go_wp2_with fail
  go_loopw [7, 13] (fun al iv wr => ∃ i : Nat, i ≤ l.length ∧ iv = .int .i64 i ∧ Below c.base w wr ∧ Blk wr w.heap.size #[.pointer (some ⟨c.C, 0, none⟩)] 28 ∧ St c (upd K k ⟨3, 1, (plsOf pl p (l.take i)).length, al, ints (plsOf pl p (l.take i))⟩) v wr) (fun _ iv _ => l.length - (intOf iv).toNat)
  case atStart =>
    refine ⟨0, Nat.zero_le _, rfl, (Below.refl _ _).alloc hb _, Blk.new _ _ _, ?_⟩
    have h2 : St c (upd K k ⟨3, 1, 0, .slice none 0 0, []⟩) v w := h.grow (h.sep.nils 3 k) (upd_ty h.ty _ _ ty3) (r := none) ⟨rfl, rfl, rfl, Nat.le_refl _, fun _ _ _ => rfl⟩ (fun b e => by cases e)
    simpa [plsOf, ints] using h2.alloc _
  case round =>
    obtain ⟨i, hi, rfl, hbl, hbx, hst⟩ := hrel
    have cb := hbx.cell? 0
    simp only [List.getElem?_toArray, List.getElem?_cons_zero] at cb
    have hLl : (plsOf pl p (l.take i)).length ≤ 8 := by have := plsOf_length pl p (l.take i); have := List.length_take_le i l; omega
    have hks2 : upd K k ⟨3, 1, (plsOf pl p (l.take i)).length, u7, ints (plsOf pl p (l.take i))⟩ ks = some ⟨3, 1, l.length, .slice ra l.length rc, ints l⟩ := by rw [upd_other _ _ (Ne.symm k1)]; exact hks
    have h02 : upd K k ⟨3, 1, (plsOf pl p (l.take i)).length, u7, ints (plsOf pl p (l.take i))⟩ 0 = some ⟨21, 1, c.N, c.pl, plRow pl c.N⟩ := by rw [upd_other _ _ (Ne.symm k2)]; exact h0
    have h42 : upd K k ⟨3, 1, (plsOf pl p (l.take i)).length, u7, ints (plsOf pl p (l.take i))⟩ 4 = some ⟨4, 1, Mg, v.gone, List.replicate Mg (.bool false)⟩ := by rw [upd_other _ _ (Ne.symm k3)]; exact h4
    rw [hpl] at h02
    rw [hgo] at h42
    by_cases hil : i < l.length
    · have hil' : (i : Int) < (l.length : Int) := by omega
      obtain ⟨g, rfl⟩ := hra (by omega)
      obtain ⟨u, hu⟩ : ∃ u, l[i]? = some u := ⟨_, List.getElem?_eq_getElem hil⟩
      have cu := hst.sep.cell hks2 (ints_at hu)
      have huN := HLT.out u (List.mem_of_getElem? hu)
      have hpu := HMP.out u (List.mem_of_getElem? hu)
      have cpu := hst.sep.cell h02 (plRow_get pl huN)
      have huN' : (u : Int) < (c.N : Int) := by omega
      have c1 : wr.cell? ⟨c.C, 1, none⟩ = some (.slice (some ⟨gp, 0, none⟩) c.N cp) := by rw [← hpl]; exact hst.hC.cell? 1
      have c5 : wr.cell? ⟨c.C, 5, none⟩ = some (.int .i64 0) := hst.hC.cell? 5
      have c9 : wr.cell? ⟨c.C, 9, none⟩ = some (.int .i64 1) := hst.hC.cell? 9
      have c12 : wr.cell? ⟨c.C, 12, none⟩ = some (.slice (some ⟨gg, 0, none⟩) Mg cg) := by rw [← hgo]; exact hst.hC.cell? 12
      by_cases hu0 : u = 0
      · subst hu0
        have eA : (plOf pl 0).bind (keepAt p) = keepAt p 1 := by simp [plOf]
        have cgo := hst.sep.cell h42 (j := 1) (x := .bool false) (rep_get _ (by omega))
        have hM1 : (1 : Int) < (Mg : Int) := by omega
        by_cases hp : ((1 : Nat) : Int) = p
        · have hp' : (1 : Int) = p := by omega
          go_wp2_with fail
          refine ⟨⟨i + 1, by omega, by go_num, hbl, hbx, ?_⟩, by simp [intOf]; omega⟩
          have e1 : plsOf pl p (l.take (i + 1)) = plsOf pl p (l.take i) := by rw [plsOf_snoc hu, eA, keepAt_none hp]; simp
          rw [e1]
          exact hst
        · have hp' : ¬ ((1 : Int) = p) := by omega
          have hfl : w.heap.size < wr.heap.size := hbx.lt
          have hQ : ((1 : Nat) : Int) = 1 := rfl
          have HBX : Hid (Blk wr w.heap.size #[.pointer (some ⟨c.C, 0, none⟩)] 28) := hbx
          clear hbx
          go_wp2_with (first | (at_builtin; refine wpList_app1 _ rfl _ _ 26 rfl (hst.sep.alloc _) (upd_same _ _ _) Yba.underlying26 info3 rfl rfl wr.heap.size 1 (.int .i64 1) rfl (by simp) rfl (by omega) (by omega) (by simp; omega) ?_; intro g2 c2 w2 hs2 hg2 hb2; rw [upd_upd] at hs2) | fail)
          refine ⟨⟨i + 1, by omega, by go_num, (hbl.alloc (by omega) _).trans hb2, ?_, ?_⟩, by simp [intOf]; omega⟩
          · exact (hg2.block _ (by simp; omega) (fun e => hst.sep.neTy HBX.out (upd_same _ _ _) (show (3 : Nat) ≠ 28 by decide) e.symm)).trans (HBX.out.alloc _)
          · have e1 : plsOf pl p (l.take (i + 1)) = plsOf pl p (l.take i) ++ [1] := by rw [plsOf_snoc hu, eA, keepAt_some hp]; simp
            rw [e1, ints_snoc, List.length_append, List.length_singleton]
            exact (hst.alloc _).grow hs2 (upd_ty h.ty _ _ ty3) hg2 (fun b hb => ⟨k, _, upd_same _ _ _, hb⟩)
      · have hu0' : ¬ ((u : Int) = 0) := by omega
        by_cases hpl0 : pl u = 0
        · have eB : (plOf pl u).bind (keepAt p) = none := by simp [plOf, hu0, hpl0]
          rw [hpl0] at cpu
          go_wp2_with fail
          refine ⟨⟨i + 1, by omega, by go_num, hbl, hbx, ?_⟩, by simp [intOf]; omega⟩
          have e1 : plsOf pl p (l.take (i + 1)) = plsOf pl p (l.take i) := by rw [plsOf_snoc hu, eB]; simp
          rw [e1]
          exact hst
        · obtain ⟨q, hq⟩ : ∃ q, pl u = q + 1 := ⟨pl u - 1, by omega⟩
          have eC : (plOf pl u).bind (keepAt p) = keepAt p q := by simp [plOf, hu0, hq]
          have hqM : q < Mg := by omega
          have hqM' : (q : Int) < (Mg : Int) := by omega
          have cgo := hst.sep.cell h42 (j := q) (x := .bool false) (rep_get _ (by omega))
          rw [hq] at cpu
          by_cases hp : (q : Int) = p
          · go_wp2_with fail
            refine ⟨⟨i + 1, by omega, by go_num, hbl, hbx, ?_⟩, by simp [intOf]; omega⟩
            have e1 : plsOf pl p (l.take (i + 1)) = plsOf pl p (l.take i) := by rw [plsOf_snoc hu, eC, keepAt_none hp]; simp
            rw [e1]
            exact hst
          · have hfl : w.heap.size < wr.heap.size := hbx.lt
            have hQ : ((q : Nat) : Int) = (q : Int) := rfl
            have HBX : Hid (Blk wr w.heap.size #[.pointer (some ⟨c.C, 0, none⟩)] 28) := hbx
            clear hbx
            go_wp2_with (first | (at_builtin; refine wpList_app1 _ rfl _ _ 26 rfl (hst.sep.alloc _) (upd_same _ _ _) Yba.underlying26 info3 rfl rfl wr.heap.size 1 (.int .i64 (q : Int)) rfl (by simp) rfl (by omega) (by omega) (by simp; omega) ?_; intro g2 c2 w2 hs2 hg2 hb2; rw [upd_upd] at hs2) | fail)
            refine ⟨⟨i + 1, by omega, by go_num, (hbl.alloc (by omega) _).trans hb2, ?_, ?_⟩, by simp [intOf]; omega⟩
            · exact (hg2.block _ (by simp; omega) (fun e => hst.sep.neTy HBX.out (upd_same _ _ _) (show (3 : Nat) ≠ 28 by decide) e.symm)).trans (HBX.out.alloc _)
            · have e1 : plsOf pl p (l.take (i + 1)) = plsOf pl p (l.take i) ++ [q] := by rw [plsOf_snoc hu, eC, keepAt_some hp]; simp
              rw [e1, ints_snoc, List.length_append, List.length_singleton]
              exact (hst.alloc _).grow hs2 (upd_ty h.ty _ _ ty3) hg2 (fun b hb => ⟨k, _, upd_same _ _ _, hb⟩)

    · have hil' : ¬ ((i : Int) < (l.length : Int)) := by omega
      have hl8 : (plsOf pl p l).length ≤ 8 := by have := plsOf_length pl p l; omega
      have hi2 : i = l.length := by omega
      rw [hi2, List.take_length] at hst
      have HBX : Hid (Blk wr w.heap.size #[.pointer (some ⟨c.C, 0, none⟩)] 28) := hbx
      clear hbx cb
      have hfl : w.heap.size < wr.heap.size := HBX.out.lt
      have H1 := upd_same K k ⟨3, 1, (plsOf pl p l).length, u7, ints (plsOf pl p l)⟩
      rcases (hst.sep.form H1).2 with ⟨e1, e2⟩ | ⟨g, cc, e1, _, _⟩
      · have e1' : u7 = .slice none 0 0 := e1
        have e2' : plsOf pl p l = [] := List.length_eq_zero_iff.1 e2
        subst e1'
        go_wp2_with fail
        refine Calls.mono (sort_nil_calls _ wr) ?_
        rintro e w1 ⟨rfl, rfl⟩
        go_wp2_with fail
        refine Calls.mono (compact_calls w1 c.base k _ _ _ _ hst.sep H1 rfl hl8 HND.out) ?_
        rintro e w2 ⟨rfl, m, rfl⟩
        go_wp2_with fail
        go_ret
        exact ⟨_, rfl, below_drewN hbl m, _, List.Perm.refl _, hst.drewN m⟩
      · have e1' : u7 = .slice (some ⟨g, 0, none⟩) (plsOf pl p l).length cc := e1
        subst e1'
        have hS : Srt c K v w.heap.size k g cc (plsOf pl p l).length (plsOf pl p l) wr wr := ⟨⟨_, List.Perm.refl _, hst⟩, HBX.out, Below.refl _ _⟩
        have hlM : ∀ x ∈ plsOf pl p l, x < M := by
          intro q hq
          obtain ⟨u, hu, h2, _⟩ := mem_plsOf.1 hq
          have := HMP.out u hu
          unfold plOf at h2
          split at h2
          · cases h2; omega
          · split at h2
            · cases h2
            · cases h2; omega
        have HLM : Hid (∀ x ∈ plsOf pl p l, x < M) := hlM
        clear hlM
        go_wp2_with fail
        refine Calls.mono (sort_calls c K v wr w.heap.size k g cc _ gI M cI _ I hS rfl hl8 hids h1 hI k4 HLM.out) ?_
        rintro e w1 ⟨rfl, hS2⟩
        obtain ⟨l', hp, hst2⟩ := hS2.ex
        have hbel := hS2.bel
        have H2 := upd_same K k ⟨3, 1, (plsOf pl p l).length, .slice (some ⟨g, 0, none⟩) (plsOf pl p l).length cc, ints l'⟩
        have HP : Hid (l'.Perm (plsOf pl p l)) := hp
        clear hp hS2 hS
        go_wp2_with fail
        refine Calls.mono (compact_calls w1 c.base k _ _ _ _ hst2.sep H2 HP.out.length_eq hl8 (HP.out.nodup_iff.2 HND.out)) ?_
        rintro e w2 ⟨rfl, m, rfl⟩
        go_wp2_with fail
        go_ret
        refine ⟨_, rfl, below_drewN (hbl.trans hbel) m, _, HP.out, ?_⟩
        rw [HP.out.length_eq]
        exact hst2.drewN m
end Go.Proofs.Ybulkuoc
