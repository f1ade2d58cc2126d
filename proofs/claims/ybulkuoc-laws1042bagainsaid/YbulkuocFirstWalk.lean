/- The walk of LawS1042BFirstCome. -/
import Derived.Test.YbulkuocItem
import Derived.Test.YbulkuocNewMaker
import Derived.Deep.QuietTactic
import Derived.BigQuiet
namespace Go.Proofs.Ybulkuoc
open Go.RowKit Go.Maps Go.WideMaps

theorem Mk.lt {w : World} {base mb bm : Nat} {v : Value} {ns : List ByteArray} (h : Mk w base mb bm v ns) : mb < w.heap.size ∧ bm < w.heap.size := by
  obtain ⟨_, _, ⟨_, _, _, _, _, _, _, _, _, hb⟩, _, D, hown, _⟩ := h
  exact ⟨(Array.getElem?_eq_some_iff.1 hb).1, hown.lt⟩

theorem Mk.ne_row {w : World} {base mb bm n : Nat} {v sv : Value} {ns : List ByteArray} {xs : List Value} (h : Mk w base mb bm v ns) (hr : w.ownsRow base 9 1 sv n xs) : sv.ownBlock ≠ some mb ∧ sv.ownBlock ≠ some bm := by
  obtain ⟨_, _, ⟨_, _, _, _, _, _, _, _, _, hb⟩, _, D, hown, _⟩ := h
  refine ⟨own_ne_cells hr hb, fun e => ?_⟩
  obtain ⟨es, cl, h1, _⟩ := hown
  rcases hr.2 with ⟨rfl, _⟩ | ⟨g, cap, cur, rfl, _, hg, _⟩
  · simp [Value.ownBlock] at e
  · simp [Value.ownBlock] at e
    subst e
    rw [h1] at hg
    cases hg

/-- The maker stands while other blocks are written. -/
theorem Mk.keptB {w w' : World} {base mb bm : Nat} {v : Value} {ns : List ByteArray} (h : Mk w base mb bm v ns) (hm : w'.heap[mb]? = w.heap[mb]?) (hb : w'.heap[bm]? = w.heap[bm]?) (hv : ∀ g, v.ownBlock = some g → w'.heap[g]? = w.heap[g]?) : Mk w' base mb bm v ns := by
  obtain ⟨h1, h2, ⟨c0, c1, c2, c5, c6, c7, c8, c9, c10, h3⟩, h4, D, ⟨es, cl, h5, h6⟩, h7⟩ := h
  refine ⟨h1, h2, ⟨c0, c1, c2, c5, c6, c7, c8, c9, c10, hm.trans h3⟩, ⟨h4.1, ?_⟩, D, ⟨es, cl, hb.trans h5, h6⟩, h7⟩
  rcases h4.2 with hn | ⟨g, cap, cur, rfl, hg1, hg2, hg3⟩
  · exact .inl hn
  · exact .inr ⟨g, cap, cur, rfl, hg1, (hv g rfl).trans hg2, hg3⟩

theorem Mk.kept {w w' : World} {base mb bm : Nat} {v : Value} {ns : List ByteArray} {row : Option Nat} (h : Mk w base mb bm v ns) (hg : w.grownBy w' row) (h1 : row ≠ some mb) (h2 : row ≠ some bm) (h3 : ∀ g, v.ownBlock = some g → row ≠ some g) : Mk w' base mb bm v ns :=
  h.keptB (hg.block mb h.lt.1 (Ne.symm h1)) (hg.block bm h.lt.2 (Ne.symm h2)) (fun g hv => hg.block g (h.names.lt g hv).2 (Ne.symm (h3 g hv)))

theorem Mk.drew {w : World} {base mb bm : Nat} {v : Value} {ns : List ByteArray} (h : Mk w base mb bm v ns) : Mk w.drew base mb bm v ns := h.keptB rfl rfl (fun _ _ => rfl)

/-- A row of another block stands while the maker takes an item in. -/
theorem row_kept_fr {w w' : World} {base n mb bm : Nat} {v sv : Value} {xs : List Value} (hr : w.ownsRow base 9 1 sv n xs) (hF : Fr w w' (fun k => k = mb ∨ k = bm ∨ v.ownBlock = some k)) (h1 : sv.ownBlock ≠ some mb) (h2 : sv.ownBlock ≠ some bm) (h3 : ∀ g, sv.ownBlock = some g → v.ownBlock ≠ some g) :
    w'.ownsRow base 9 1 sv n xs := by
  refine ⟨hr.1, ?_⟩
  rcases hr.2 with hn | ⟨g, cap, cur, rfl, hg1, hg2, hg3⟩
  · exact .inl hn
  · refine .inr ⟨g, cap, cur, rfl, hg1, (hF.block g (Array.getElem?_eq_some_iff.1 hg2).1 ?_).trans hg2, hg3⟩
    rintro (e | e | e)
    · exact h1 (by simp [Value.ownBlock, e])
    · exact h2 (by simp [Value.ownBlock, e])
    · exact h3 g rfl e

theorem Fr.below {w w' : World} {B : Nat} {S : Nat → Prop} (h : Fr w w' S) (hB : B ≤ w.heap.size) (hS : ∀ k, S k → B ≤ k) : Below B w w' :=
  ⟨h.os, h.tape, h.output, h.size, fun k hk => h.block k (by omega) (fun hs => by have := hS k hs; omega)⟩

theorem row_shape {w : World} {base n : Nat} {e : TypeId} {v : Value} {xs : List Value} (h : w.ownsRow base e 1 v n xs) : ∃ a c, v = .slice a n c := by
  rcases h.2 with ⟨rfl, h0⟩ | ⟨g, cap, cur, rfl, _⟩
  · exact ⟨_, _, by rw [h0]⟩
  · exact ⟨_, _, rfl⟩

/-- What a round of LawS1042BFirstCome's loop holds. -/
structure Rel (w wr : World) (len mb bm : Nat) (sv i : Value) (k : Nat) (v : Value) (ns : List ByteArray) : Prop where
  kl : k ≤ len
  ie : i = .int .i64 k
  nk : ns.length ≤ k
  mker : Mk wr w.heap.size mb bm v ns
  seen : wr.ownsRow w.heap.size 9 1 sv ns.length (ns.map Value.string)
  apart : ∀ g, sv.ownBlock = some g → v.ownBlock ≠ some g
  below : Below w.heap.size w wr

set_option maxRecDepth 10000 in
set_option maxHeartbeats 400000 in
theorem first_walk (a0 : Option Addr) (len cap : Nat) (w : World) (hlen : len ≤ 1024) (hc : ∀ j, j < len → ∃ b off s, a0 = some ⟨b, off, none⟩ ∧ b < w.heap.size ∧ w.cell? ⟨b, off + j, none⟩ = some (.string s) ∧ s.size ≤ maxLen) :
    Calls Yba.prog 5 #[.slice a0 len cap] w fun e w' => e = .returned (.bool true) ∧ Below w.heap.size w w' := by
  have HX : Hid (∀ j, j < len → ∃ b off s, a0 = some ⟨b, off, none⟩ ∧ b < w.heap.size ∧ w.cell? ⟨b, off + j, none⟩ = some (.string s) ∧ s.size ≤ maxLen) := hc
  clear hc
  go_enter Yba.func5, Yba.ntmps5
  go_wp2_with fail
  refine (newMaker_calls 0 w (by omega)).mono ?_
  rintro e w1 ⟨mb, m0, bm, m7, a5, l5, c5, a6, l6, c6, rfl, hbel, hmb, hbm, hmap, hcells⟩
  go_wp2_with fail
  go_loopw [4, 15] (fun sv i wr => ∃ k v ns, Rel w wr len mb bm sv i k v ns) (fun _ i _ => len - (intOf i).toNat)
  case atStart =>
    refine ⟨0, .slice none 0 0, [], ⟨Nat.zero_le _, rfl, Nat.le_refl _, ⟨hmb, hbm, ⟨_, _, _, _, _, _, _, _, _, hcells⟩, World.ownsRow_nil _ _ _ _, .map [], ⟨#[], 0, hmap, ⟨by simp, MapKept.stamped_empty 0, by simp⟩, Nat.le_refl _, rfl⟩, mapIs_nil⟩, World.ownsRow_nil _ _ _ _, ?_, hbel⟩⟩
    intro g hg; simp [Value.ownBlock] at hg
  case round =>
    clear hmap hcells
    obtain ⟨k, v, ns, ⟨hk, rfl, hnk, hM, hseen, hap, hbl⟩⟩ := hrel
    by_cases hlt : k < len
    · obtain ⟨b, off, x, rfl, hbw, hcw, hxs⟩ := HX.out k hlt
      have hck : wr.cell? ⟨b, off + k, none⟩ = some (.string x) := (hbl.cell (by exact hbw)).trans hcw
      clear hcw
      by_cases hin : pos x ns < ns.length
      · have hidx : idx x ns = (pos x ns : Int) := by simp [idx, hin]
        go_wp2_with fail
        refine (bindex_calls w.heap.size u4 ns x wr hseen (by omega)).mono ?_
        rintro e w2 ⟨rfl, rfl⟩
        rw [hidx]
        go_wp2_with fail
        refine (itemNumber_in w.heap.size mb bm v ns x w2 hM hxs hin).mono ?_
        rintro e w3 ⟨rfl, rfl⟩
        go_wp2_with fail
        go_roundw
        case rel => exact ⟨k + 1, v, ns, by omega, by go_num, by omega, hM, hseen, hap, hbl⟩
        case measure => simp [intOf]; omega
      · have hidx : idx x ns = -1 := by simp [idx, hin]
        have hpe : pos x ns = ns.length := by have := pos_le x ns; omega
        have HP : Hid (pos x ns = ns.length) := hpe
        clear hpe
        obtain ⟨sa, sc, hsv⟩ := row_shape hseen
        subst hsv
        have hB : w.heap.size ≤ wr.heap.size := hbl.size
        obtain ⟨i9, hi, hz0, hz1, hz2⟩ := info_parts info9
        go_wp2_with fail
        refine (bindex_calls w.heap.size _ ns x wr hseen (by omega)).mono ?_
        rintro e w2 ⟨rfl, rfl⟩
        rw [hidx]
        go_wp2_with (first
          | (at_builtin; refine wpList_append_lies _ rfl _ _ 53 rfl w.heap.size 9 i9 (.string ByteArray.empty) 1 16 Yba.underlying53 hi hz0 hz1 hz2 rfl (by omega) _ ns.length (ns.map Value.string) rfl (hseen.alloc _) ⟨w2.heap.size, 0, none⟩ 1 1 [.string x] rfl rfl (cell_one_new _ _ _) (by simp [Value.oneCell']) (by omega) (by unfold maxLen; omega) (by omega) (by simp; omega) (w2.heap.size + 1) (by simp) ?_; intro g cap' w3 hown3 hgrow3 hat3 hlt3)
          | fail)
        have hM3 : Mk w3 w.heap.size mb bm v ns := (hM.kept (World.grownBy_alloc w2 _ none) (by simp) (by simp) (by simp)).kept hgrow3 (hM.ne_row hseen).1 (hM.ne_row hseen).2 (fun q hq e => hap q e hq)
        refine (itemNumber_out w.heap.size mb bm v ns x w3 hM3 hxs hin (by omega)).mono ?_
        rintro e w4 ⟨rfl, v', hM4, hloc, hF⟩
        rw [HP.out]
        go_wp2_with fail
        go_roundw
        case rel =>
          have hgv : ∀ q, v.ownBlock = some q → q ≠ g := by
            intro q hq e
            subst e
            rcases hat3 with h | h
            · exact hap q h hq
            · have := (hM.names.lt q hq).2; omega
          have hs3 := hgrow3.size
          simp at hs3
          refine ⟨k + 1, v', ns ++ [x], by omega, by go_num, by simp; omega, hM4, ?_, ?_, ?_⟩
          · have h5 := row_kept_fr hown3 hF (hM3.ne_row hown3).1 (hM3.ne_row hown3).2 (fun q hq e => hgv q e (by simpa [Value.ownBlock] using hq.symm))
            simpa using h5
          · intro q hq
            have hq' : g = q := by simpa [Value.ownBlock] using hq
            subst hq'
            rcases hloc with h | h
            · rw [h]; intro e; exact hgv _ e rfl
            · intro e; have := h _ e; omega
          · refine ((hbl.alloc hB _).grown hgrow3 (by simp; omega) ?_).trans (hF.below (by omega) ?_)
            · intro q hq; exact (hseen.lt q hq).1
            · rintro q (rfl | rfl | hq)
              · exact hmb
              · exact hbm
              · exact (hM.names.lt q hq).1
        case measure => simp [intOf]; omega
    · have hkl : k = len := by omega
      subst hkl
      obtain ⟨sa, sc, hsv⟩ := row_shape hseen
      subst hsv
      obtain ⟨va, vc, hv⟩ := row_shape hM.names
      subst hv
      have hM0 := hM
      obtain ⟨_, _, ⟨c0, c1, c2, c5', c6', c7, c8, c9, c10, hb⟩, hrow, D, hown, hD⟩ := hM0
      have hc3 : wr.cell? ⟨mb, 3, none⟩ = some (.map (some bm)) := by rw [cell_of_row wr mb 3 _ 62 (0, 0) hb]; rfl
      have hc4 : wr.cell? ⟨mb, 4, none⟩ = some (.slice va ns.length vc) := by rw [cell_of_row wr mb 4 _ 62 (0, 0) hb]; rfl
      have hsz : Maps.size D = ns.length := hD.size
      have hln : ∀ ty, (Builtin.len_ #[59] ty #[.map (some bm)]).run Yba.prog wr = .ok (.int .i64 ns.length) wr := fun ty => by rw [← hsz]; exact hown.len Yba.underlying59 ty
      clear hsz hD hown hb
      have hcs : ∀ j (hj : j < ns.length), ∃ gs gv, sa = some ⟨gs, 0, none⟩ ∧ va = some ⟨gv, 0, none⟩ ∧ wr.cell? ⟨gs, j, none⟩ = some (.string ns[j]) ∧ wr.cell? ⟨gv, j, none⟩ = some (.string ns[j]) := by
        intro j hj
        obtain ⟨gs, cs, e1, _, _⟩ := hseen.form (by omega)
        obtain ⟨gv, cv, e2, _, _⟩ := hrow.form (by omega)
        simp at e1 e2
        obtain ⟨rfl, rfl⟩ := e1
        obtain ⟨rfl, rfl⟩ := e2
        refine ⟨gs, gv, rfl, rfl, ?_, ?_⟩
        · have h := hseen.cells (g := gs) rfl j (.string ns[j]) (by simp [hj])
          rw [show ((⟨gs, 0, none⟩ : Addr).add j) = ⟨gs, j, none⟩ from by unfold Addr.add; split <;> simp_all] at h
          exact h
        · have h := hrow.cells (g := gv) rfl j (.string ns[j]) (by simp [hj])
          rw [show ((⟨gv, 0, none⟩ : Addr).add j) = ⟨gv, j, none⟩ from by unfold Addr.add; split <;> simp_all] at h
          exact h
      clear hM hseen hrow hap
      have HC : Hid (∀ j (hj : j < ns.length), ∃ gs gv, sa = some ⟨gs, 0, none⟩ ∧ va = some ⟨gv, 0, none⟩ ∧ wr.cell? ⟨gs, j, none⟩ = some (.string ns[j]) ∧ wr.cell? ⟨gv, j, none⟩ = some (.string ns[j])) := hcs
      clear hcs
      go_wp2_with fail
      go_loopw [56] (fun i wq => ∃ j n : Nat, j ≤ ns.length ∧ i = .int .i64 j ∧ wq = wr.drewN n) (fun i _ => ns.length - (intOf i).toNat)
      case atStart => exact ⟨0, 0, Nat.zero_le _, rfl, rfl⟩
      case round =>
        obtain ⟨j, n, hj, rfl, rfl⟩ := hrel
        by_cases hjl : j < ns.length
        · obtain ⟨gs, gv, rfl, rfl, hcs, hcv⟩ := HC.out j hjl
          generalize ns[j] = y at hcs hcv
          go_wp2_with fail
          go_quiet (fail)
          go_wp2_with fail
          go_roundw
          case rel => exact ⟨j + 1, _, by omega, by go_num, rfl⟩
          case measure => simp [intOf]; omega
        · go_wp2_with fail
          go_ret
          exact ⟨rfl, ⟨hbl.os, hbl.tape, hbl.output, hbl.size, hbl.block⟩⟩

theorem first_big (a0 : Option Addr) (len cap : Nat) (w : World) (hlen : 1024 < len) :
    Calls Yba.prog 5 #[.slice a0 len cap] w fun e w' => e = .returned (.bool true) ∧ Below w.heap.size w w' := by
  go_enter Yba.func5, Yba.ntmps5
  go_wp2_with fail
  go_ret
  exact ⟨rfl, Below.refl _ _⟩

end Go.Proofs.Ybulkuoc
