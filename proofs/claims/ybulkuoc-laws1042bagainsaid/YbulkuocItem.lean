/- (*maker).itemNumber: its contracts. -/
import Derived.Test.YbulkuocBindex
import Derived.Deep.AppendLies
namespace Go.Proofs.Ybulkuoc
open Go.RowKit Go.Maps Go.WideMaps

theorem law9 : Keyed Yba.prog 9 := string_keyed Yba.underlying9
theorem zero3 (w : World) : (zeroValue 3).run Yba.prog w = .ok (.int .i64 0) w := by kernel_rfl
theorem info9 : (Yba.prog.info? 9).map (fun i => (i.zero, i.size, i.bytes)) = some (some (.string ByteArray.empty), 1, 16) := by kernel_rfl

/-- Below: the maker at block mb, its item map at block bm, its names in the value v: it holds the items ns. -/
structure Mk (w : World) (base mb bm : Nat) (v : Value) (ns : List ByteArray) : Prop where
  bmb : base ≤ mb
  bbm : base ≤ bm
  cells : ∃ c0 c1 c2 c5 c6 c7 c8 c9 c10, w.heap[mb]? = some (.cells #[c0, c1, c2, .map (some bm), v, c5, c6, c7, c8, c9, c10] 62 (0, 0))
  names : w.ownsRow base 9 1 v ns.length (ns.map Value.string)
  item : ∃ D : DataW Unit, w.ownsMap Yba.prog 9 (plainElem Yba.prog 3) bm ns.length D ∧ MapIs D ns

theorem itemNumber_in (base mb bm : Nat) (v : Value) (ns : List ByteArray) (x : ByteArray) (w : World) (hM : Mk w base mb bm v ns) (hx : x.size ≤ maxLen) (hin : pos x ns < ns.length) :
    Calls Yba.prog 16 #[.pointer (some ⟨mb, 0, none⟩), .string x] w fun e w' => e = .returned (.int .i64 (pos x ns)) ∧ w' = w := by
  obtain ⟨_, _, ⟨c0, c1, c2, c5, c6, c7, c8, c9, c10, hb⟩, hrow, D, hown, hD⟩ := hM
  have hc3 : w.cell? ⟨mb, 3, none⟩ = some (.map (some bm)) := by rw [cell_of_row w mb 3 _ 62 (0, 0) hb]; rfl
  have hkey := keyOf_string_mk Yba.underlying9 hx
  have hh : Maps.has D (.string x.data.toList) = true := by rw [hD.has]; simpa using hin
  have HA := hD.at_ x hin
  have HA' : Hid (D.atKey (.string x.data.toList) (.lit (.int .i64 0)) = .lit (.int .i64 (pos x ns))) := HA
  clear HA hD hb hrow
  go_enter Yba.func16, Yba.ntmps16
  go_wp2_with (first
    | (at_lookup; refine wpList_lookup_own_ok_int _ rfl _ _ 59 rfl 9 3 .i64 law9 Yba.underlying59 Yba.underlying3 (zero3 _) bm ns.length D rfl hown _ _ rfl hkey ?_; intro c hat hwc)
    | go_in)
  go_ret
  have e := hat.symm.trans HA'.out
  injection e with e
  injection e with _ e
  subst e
  exact ⟨rfl, rfl⟩

/-- w' is w but for the blocks in S, and new ones. -/
structure Fr (w w' : World) (S : Nat → Prop) : Prop where
  os : w'.os = w.os
  tape : w'.tape = w.tape
  output : w'.output = w.output
  size : w.heap.size ≤ w'.heap.size
  block : ∀ k, k < w.heap.size → ¬ S k → w'.heap[k]? = w.heap[k]?

theorem own_ne_map {w : World} {base bm n : Nat} {v : Value} {xs : List Value} {D : DataW Unit} (hrow : w.ownsRow base 9 1 v n xs) (hown : w.ownsMap Yba.prog 9 (plainElem Yba.prog 3) bm n D) : v.ownBlock ≠ some bm := by
  intro e
  obtain ⟨es, cl, h1, _⟩ := hown
  rcases hrow.2 with ⟨rfl, _⟩ | ⟨g, cap, cur, rfl, _, hg, _⟩
  · simp [Value.ownBlock] at e
  · simp [Value.ownBlock] at e
    subst e
    rw [h1] at hg
    cases hg

theorem own_ne_cells {w : World} {base mb n : Nat} {v : Value} {xs : List Value} {cs : Array Value} (hrow : w.ownsRow base 9 1 v n xs) (hb : w.heap[mb]? = some (.cells cs 62 (0, 0))) : v.ownBlock ≠ some mb := by
  intro e
  rcases hrow.2 with ⟨rfl, _⟩ | ⟨g, cap, cur, rfl, _, hg, _⟩
  · simp [Value.ownBlock] at e
  · simp [Value.ownBlock] at e
    subst e
    rw [hb] at hg
    cases hg

theorem map_ne_cells {w : World} {mb bm n : Nat} {cs : Array Value} {D : DataW Unit} (hb : w.heap[mb]? = some (.cells cs 62 (0, 0))) (hown : w.ownsMap Yba.prog 9 (plainElem Yba.prog 3) bm n D) : mb ≠ bm := by
  rintro rfl
  obtain ⟨es, cl, h1, _⟩ := hown
  rw [hb] at h1
  cases h1

/-- The maker's block behind the store into its field 'names'. -/
theorem store4 {w : World} {mb : Nat} {c0 c1 c2 c3 c4 c5 c6 c7 c8 c9 c10 : Value} (v' : Value) (hb : w.heap[mb]? = some (.cells #[c0, c1, c2, c3, c4, c5, c6, c7, c8, c9, c10] 62 (0, 0))) :
    (w.setCell ⟨mb, 4, none⟩ v').heap[mb]? = some (.cells #[c0, c1, c2, c3, v', c5, c6, c7, c8, c9, c10] 62 (0, 0)) := by
  simp [World.setCell, Array.getElem?_modify, hb]

set_option maxRecDepth 10000 in
set_option maxHeartbeats 400000 in
theorem itemNumber_out (base mb bm : Nat) (v : Value) (ns : List ByteArray) (x : ByteArray) (w : World) (hM : Mk w base mb bm v ns) (hx : x.size ≤ maxLen) (hin : ¬ pos x ns < ns.length) (hn : ns.length ≤ 1024) :
    Calls Yba.prog 16 #[.pointer (some ⟨mb, 0, none⟩), .string x] w fun e w' => e = .returned (.int .i64 (pos x ns)) ∧ ∃ v', Mk w' base mb bm v' (ns ++ [x]) ∧ (v'.ownBlock = v.ownBlock ∨ ∀ g, v'.ownBlock = some g → w.heap.size ≤ g) ∧ Fr w w' (fun k => k = mb ∨ k = bm ∨ v.ownBlock = some k) := by
  obtain ⟨bmb, bbm, ⟨c0, c1, c2, c5, c6, c7, c8, c9, c10, hb⟩, hrow, D, hown, hD⟩ := hM
  have hlt := hown.lt
  have hmlt : mb < w.heap.size := (Array.getElem?_eq_some_iff.1 hb).1
  have hc3 : w.cell? ⟨mb, 3, none⟩ = some (.map (some bm)) := by rw [cell_of_row w mb 3 _ 62 (0, 0) hb]; rfl
  have hkey := keyOf_string_mk Yba.underlying9 hx
  have hh : Maps.has D (.string x.data.toList) = false := by rw [hD.has]; simpa using hin
  have hsz : Maps.size D = ns.length := hD.size
  have hpe : pos x ns = ns.length := by have := pos_le x ns; omega
  rw [hpe]
  have hvb := own_ne_map hrow hown
  have hvm := own_ne_cells hrow hb
  have hmm := map_ne_cells hb hown
  have HTidy : Hid (Tidy D ∧ IsMap D) := ⟨hown.tidy law9, hown.isMap⟩
  have HD : Hid (MapIs D ns) := hD
  have HB : Hid (w.heap[mb]? = some (.cells #[c0, c1, c2, .map (some bm), v, c5, c6, c7, c8, c9, c10] 62 (0, 0))) := hb
  have HR : Hid (w.ownsRow base 9 1 v ns.length (ns.map Value.string)) := hrow
  have HV : Hid (v.ownBlock ≠ some bm ∧ v.ownBlock ≠ some mb ∧ mb ≠ bm) := ⟨hvb, hvm, hmm⟩
  clear hD hb hrow hpe hvb hvm hmm
  obtain ⟨i9, hi, hz0, hz1, hz2⟩ := info_parts info9
  go_enter Yba.func16, Yba.ntmps16
  go_wp2_with (first
    | (at_lookup; refine wpList_lookup_own_ok_int _ rfl _ _ 59 rfl 9 3 .i64 law9 Yba.underlying59 Yba.underlying3 (zero3 _) bm ns.length D rfl hown _ _ rfl hkey ?_; intro c hat hwc; clear hat hwc)
    | (at_len; refine wpList_len_own _ rfl _ 59 rfl 9 3 Yba.underlying59 _ bm ns.length D rfl hown ?_)
    | (at_mapUpdate; refine wpList_mapUpdate_own _ rfl _ _ _ 59 rfl 9 3 law9 Yba.underlying59 _ bm ns.length _ rfl hown (by unfold maxLen; omega) _ _ _ rfl rfl hkey _ [] (plainElem_int Yba.underlying3 (WalkArith.wf_i64 (by omega))) ?_; intro w1 hown1 hgrow1; have HO1 := show Hid (w1.ownsMap Yba.prog 9 (plainElem Yba.prog 3) bm (ns.length + 1) (D.put (.string x.data.toList) (.lit (.int .i64 ns.length)))) from hown1; clear hown1; have HB1 : Hid (w1.heap[mb]? = some (.cells #[c0, c1, c2, .map (some bm), v, c5, c6, c7, c8, c9, c10] 62 (0, 0))) := (hgrow1.block mb hmlt (by have := HV.out.2.2; simpa using this)).trans HB.out; have hc4 : w1.cell? ⟨mb, 4, none⟩ = some v := (by rw [cell_of_row w1 mb 4 _ 62 (0, 0) HB1.out]; rfl); have hrow1 : w1.ownsRow base 9 1 v ns.length (ns.map Value.string) := HR.out.kept hgrow1 (.inr HV.out.1); have hs1 := hgrow1.size)
    | (at_builtin; refine wpList_append_lies _ rfl _ _ 53 rfl base 9 i9 (.string ByteArray.empty) 1 16 Yba.underlying53 hi hz0 hz1 hz2 rfl (by omega) v ns.length (ns.map Value.string) rfl (hrow1.alloc _) ⟨w1.heap.size, 0, none⟩ 1 1 [.string x] rfl rfl (cell_one_new _ _ _) (by simp [Value.oneCell']) (by omega) (by unfold maxLen; omega) (by omega) (by simp; omega) (w1.heap.size + 1) (by simp) ?_; intro g cap w2 hown2 hgrow2 hat2 hlt2; have HB2 : Hid (w2.heap[mb]? = some (.cells #[c0, c1, c2, .map (some bm), v, c5, c6, c7, c8, c9, c10] 62 (0, 0))) := (hgrow2.block mb (by simp; omega) (Ne.symm HV.out.2.1)).trans ((Below.heap_alloc w1 _ mb (by omega)).trans HB1.out); have hc42 : w2.cell? ⟨mb, 4, none⟩ = some v := (by rw [cell_of_row w2 mb 4 _ 62 (0, 0) HB2.out]; rfl); have hf42 : w2.frozen? ⟨mb, 4, none⟩ = false := (by simp [World.frozen?, HB2.out]))
    | fail)
  go_ret
  have hall : w.grownBy w1 (some bm) := hgrow1
  have hs2 : w1.heap.size + 1 ≤ w2.heap.size := by have := hgrow2.size; simpa using this
  have hgne : g ≠ mb := by
    rcases hat2 with h | h
    · intro e; rw [e] at h; exact HV.out.2.1 h
    · omega
  have hbm2 : w2.heap[bm]? = w1.heap[bm]? := (hgrow2.block bm (by simp; omega) (Ne.symm HV.out.1)).trans (Below.heap_alloc w1 _ bm (by omega))
  refine ⟨rfl, .slice (some ⟨g, 0, none⟩) (ns.length + 1) cap, ⟨bmb, bbm, ⟨c0, c1, c2, c5, c6, c7, c8, c9, c10, store4 _ HB2.out⟩, ?_, _, ?_, mapIs_put HD.out HTidy.out.1 HTidy.out.2 (law9.key hkey) hin⟩, ?_, ?_⟩
  · have h3 := ownsRow_setCell_other hown2 (a := ⟨mb, 4, none⟩) (by simp [Value.ownBlock, hgne]) (.slice (some ⟨g, 0, none⟩) (ns.length + 1) cap)
    simpa using h3
  · have h3 := HO1.out
    obtain ⟨es, cl, h4, h5⟩ := h3
    refine ⟨es, cl, ?_, by simpa using h5⟩
    rw [Below.heap_setCell _ _ _ _ (Ne.symm HV.out.2.2)]
    exact hbm2.trans h4
  · rcases hat2 with h | h
    · left; rw [h]; rfl
    · right; intro g' hg'; simp [Value.ownBlock] at hg'; omega
  · refine ⟨?_, ?_, ?_, ?_, ?_⟩
    · exact hgrow2.os.trans hgrow1.os
    · exact hgrow2.tape.trans hgrow1.tape
    · exact hgrow2.output.trans hgrow1.output
    · simp; omega
    · intro k hk hS
      have e1 : k ≠ mb := fun e => hS (.inl e)
      have e2 : k ≠ bm := fun e => hS (.inr (.inl e))
      have e3 : some k ≠ v.ownBlock := fun e => hS (.inr (.inr e.symm))
      rw [Below.heap_setCell _ _ _ _ e1, hgrow2.block k (by simp; omega) e3, Below.heap_alloc w1 _ k (by omega)]
      exact hgrow1.block k hk (by simpa using e2)

end Go.Proofs.Ybulkuoc
