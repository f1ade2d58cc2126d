/- (*Store).count. -/
import Derived.Test.YbulkuvcLaws
namespace Go.Proofs.Ybulkuvc
open Go.RowKit Go.Maps Go.WideMaps

theorem zero4 (w : World) : (zeroValue 4).run Yba.prog w = .ok (.bool false) w := by kernel_rfl
theorem zero9 (w : World) : (zeroValue 9).run Yba.prog w = .ok (.string ⟨#[]⟩) w := by kernel_rfl
theorem zero77 (w : World) : (zeroValue 77).run Yba.prog w = .ok (.agg #[.string ⟨#[]⟩, .int .i64 0]) w := by kernel_rfl
theorem mk118 (n : Int) (w : World) : (Instr.makeMap 118 (some (.int .i64 n))).run Yba.prog w = .ok (.map (some w.heap.size)) (w.alloc (.map #[] 0)) := by
  simp [Instr.makeMap, run_underlying Yba.underlying118, asInt, asIntOf, Result.andThen]
attribute [local go_sem] mk118

theorem nk_size (n : Nat) : (nk n).size ≤ maxLen := by show 1 ≤ maxLen; decide

/-- The counts c of the four keys, in the map gb. -/
structure Gnt (w : World) (gb : Nat) (c : Nat → Nat) : Prop where
  ex : ∃ m, Mp w gb m ∧ (∀ n, n < 4 → look m (nk n) = if c n = 0 then none else some (.agg #[.string ⟨#[]⟩, .int .i64 (c n)])) ∧ ∀ s, (∀ n, n < 4 → s ≠ nk n) → look m s = none

theorem keys_length {m : Ents} (hn : (m.map Prod.fst).Nodup) {c : Nat → Nat} (h1 : ∀ n, n < 4 → ((look m (nk n)).isSome = true ↔ c n ≠ 0)) (h2 : ∀ s, (∀ n, n < 4 → s ≠ nk n) → look m s = none) : m.length = ((List.range 4).filter (fun n => decide (c n ≠ 0))).length := by
  have hp : (m.map Prod.fst).Perm (((List.range 4).filter (fun n => decide (c n ≠ 0))).map nk) := by
    rw [List.perm_ext_iff_of_nodup hn]
    · intro s
      constructor
      · intro hs
        obtain ⟨p, hp, rfl⟩ := List.mem_map.1 hs
        by_cases hex : ∃ n, n < 4 ∧ p.1 = nk n
        · obtain ⟨n, hn4, e⟩ := hex
          refine List.mem_map.2 ⟨n, ?_, e.symm⟩
          rw [List.mem_filter]
          refine ⟨List.mem_range.2 hn4, ?_⟩
          have := (h1 n hn4).1 ((look_isSome m (nk n)).2 ⟨p.2, by rw [← e]; exact hp⟩)
          simpa using this
        · have := h2 p.1 (fun n hn4 e => hex ⟨n, hn4, e⟩)
          rw [look_none] at this
          exact absurd hp (this p.2)
      · intro hs
        obtain ⟨n, hn4, rfl⟩ := List.mem_map.1 hs
        rw [List.mem_filter] at hn4
        obtain ⟨v, hv⟩ := (look_isSome m (nk n)).1 ((h1 n (List.mem_range.1 hn4.1)).2 (by simpa using hn4.2))
        exact List.mem_map.2 ⟨_, hv, rfl⟩
    · rw [List.nodup_iff_pairwise_ne, List.pairwise_map]
      refine List.Pairwise.imp_of_mem ?_ ((List.nodup_range).filter _)
      intro a b ha hb hab e
      exact hab (nk_inj (List.mem_range.1 (List.mem_filter.1 ha).1) (List.mem_range.1 (List.mem_filter.1 hb).1) e)
  have := hp.length_eq
  simpa using this

theorem Gnt.keep {w w' : World} {gb : Nat} {c : Nat → Nat} {S : Nat → Prop} (h : Gnt w gb c) (hf : Fr w w' S) (hn : ¬ S gb) : Gnt w' gb c := by
  obtain ⟨m, hm, r⟩ := h.ex
  exact ⟨m, hm.keep hf hn, r⟩
theorem Gnt.lt {w : World} {gb : Nat} {c : Nat → Nat} (h : Gnt w gb c) : gb < w.heap.size := by
  obtain ⟨m, hm, _⟩ := h.ex
  exact hm.lt

theorem Mp.drew {w : World} {b : Nat} {m : Ents} (h : Mp w b m) : Mp w.drew b m := ⟨h.nd, h.sm, h.ex⟩

theorem count_step {w wr w2 w3 : World} {gb : Nat} {ks : List Nat} {c : Nat → Nat} {j kk : Nat} {cm m : Ents} (hjl : j < ks.length) (hk4 : kk < 4) (hgl : gb < w.heap.size) (hin : kk ∉ ks.take j) (htk : ∀ n, n ∈ ks.take (j + 1) ↔ n ∈ ks.take j ∨ n = kk) (hcl : cm.length ≤ j) (hlk : ∀ n, n < 4 → look cm (nk n) = if n ∈ ks.take j then some (.bool true) else none)
    (hmk : ∀ n, n < 4 → look m (nk n) = if (c n + if n ∈ ks.take j then 1 else 0) = 0 then none else some (.agg #[.string ⟨#[]⟩, .int .i64 ((c n + if n ∈ ks.take j then 1 else 0 : Nat) : Int)])) (hmo : ∀ s, (∀ n, n < 4 → s ≠ nk n) → look m s = none)
    (hf : Fr w wr (fun k => k = gb)) (hF2 : Fr wr w2 (fun k => k = w.heap.size)) (hF3 : Fr w2 w3 (fun k => k = gb)) (hcm2 : Mp w2 w.heap.size (put cm (nk kk) (.bool true))) (hm3 : Mp w3 gb (put m (nk kk) (.agg #[.string ⟨#[]⟩, .int .i64 ((c kk + 1 : Nat) : Int)]))) :
    (∃ (j_1 : Nat) (cm : Ents), j_1 ≤ ks.length ∧ Value.int IntKind.i64 (↑j + 1) = Value.int IntKind.i64 ↑j_1 ∧ Mp w3 w.heap.size cm ∧ cm.length ≤ j_1 ∧ (∀ n, n < 4 → look cm (nk n) = if n ∈ ks.take j_1 then some (.bool true) else none) ∧ (Gnt w3 gb fun n => c n + if n ∈ ks.take j_1 then 1 else 0) ∧ Fr w w3 fun k => k = gb) ∧
    ks.length - (intOf (Value.int IntKind.i64 (↑j + 1))).toNat < ks.length - (intOf (Value.int IntKind.i64 ↑j)).toNat := by
  refine ⟨⟨j + 1, _, hjl, by go_num, hcm2.keep hF3 (by omega), ?_, ?_, ⟨_, hm3, ?_, ?_⟩, (hf.trans hF2 (by intro k hk e; omega)).trans hF3 (by intro k _ e; exact e)⟩, by simp [intOf]; omega⟩
  · rw [put_length]
    split <;> omega
  · intro n hn
    rw [look_put]
    by_cases e : n = kk
    · subst e
      rw [if_pos rfl, if_pos ((htk n).2 (.inr rfl))]
    · rw [if_neg (fun h => e (nk_inj hn hk4 h)), hlk n hn]
      have : n ∈ ks.take (j + 1) ↔ n ∈ ks.take j := by rw [htk]; exact ⟨fun h => h.elim id (fun h => absurd h e), .inl⟩
      simp [this]
  · intro n hn
    rw [look_put]
    by_cases e : n = kk
    · subst e
      rw [if_pos rfl, if_pos ((htk n).2 (.inr rfl))]
      simp
    · rw [if_neg (fun h => e (nk_inj hn hk4 h)), hmk n hn]
      have : n ∈ ks.take (j + 1) ↔ n ∈ ks.take j := by rw [htk]; exact ⟨fun h => h.elim id (fun h => absurd h e), .inl⟩
      simp [this]
  · intro s hs
    rw [look_put, if_neg (hs kk hk4)]
    exact hmo s hs

set_option maxRecDepth 10000 in
set_option maxHeartbeats 1600000 in
theorem count_calls (S L gb a t na ra : Nat) (v : Value) (ks : List Nat) (c : Nat → Nat) (w : World) (hS : Sto w S L gb) (hT : Tab w L a t na ra) (hna : Mp w na []) (hv : Gr w v ks) (hG : Gnt w gb c) (hc : ∀ n, c n ≤ 1000) (hne : na ≠ gb) :
    Calls Yba.prog 38 #[.pointer (some ⟨S, 0, none⟩), v, .int .i64 1] w fun e w' => e = .returned (.tuple #[]) ∧ Gnt w' gb (fun n => c n + if n ∈ ks then 1 else 0) ∧ Fr w w' (fun k => k = gb) := by
  obtain ⟨g, cap, cs, rfl, hgb, hcs⟩ := hv.ex
  have hlen := hv.len
  go_enter Yba.func38, Yba.ntmps38
  go_wp2_with fail
  go_loopw [16] (fun i wr => ∃ (j : Nat) (cm : Ents), j ≤ ks.length ∧ i = .int .i64 j ∧ Mp wr w.heap.size cm ∧ cm.length ≤ j ∧ (∀ n, n < 4 → look cm (nk n) = if n ∈ ks.take j then some (.bool true) else none) ∧ Gnt wr gb (fun n => c n + if n ∈ ks.take j then 1 else 0) ∧ Fr w wr (fun k => k = gb)) (fun i _ => ks.length - (intOf i).toNat)
  case atStart =>
    exact ⟨0, [], Nat.zero_le _, rfl, Mp.made w, Nat.le_refl _, fun n _ => by simp [look_nil], by simpa using hG.keep ((Fr.refl w (fun _ => False)).alloc _) (by simp), (Fr.refl w _).alloc _⟩
  case round =>
    obtain ⟨j, cm, hj, rfl, hcm, hcl, hlk, hGr, hf⟩ := hrel
    by_cases hjl : j < ks.length
    · have hk4 := hv.lt4 ks[j] (List.getElem_mem _)
      obtain ⟨h0, h1⟩ := hcs j hjl
      have htk : ∀ n, n ∈ ks.take (j + 1) ↔ n ∈ ks.take j ∨ n = ks[j] := by
        intro n
        have e : ks.take (j + 1) = ks.take j ++ [ks[j]] := by rw [List.take_add_one, List.getElem?_eq_getElem hjl]; rfl
        rw [e, List.mem_append, List.mem_singleton]
      generalize ks[j] = kk at *
      obtain ⟨m, hm, hmk, hmo⟩ := hGr.ex
      have hgg : g ≠ gb := by obtain ⟨m0, hm0, _⟩ := hG.ex; exact hgb.neMp hm0
      have hg' := hgb.keep hf hgg
      have c0 := (hg'.cell? (j * 2)).trans h0
      have c1 := (hg'.cell? (j * 2 + 1)).trans h1
      by_cases hin : kk ∈ ks.take j
      · go_wp2_with (first
          | (at_lookup; refine wpList_look _ rfl _ _ 118 rfl (hcm.alloc _) Yba.underlying118 (zero4 _) (nk kk) rfl rfl (nk_size _) (u := .bool true) (by rw [hlk kk hk4, if_pos hin]; rfl) ?_)
          | fail)
        have hsame : ∀ n, (if n ∈ ks.take (j + 1) then (1 : Nat) else 0) = if n ∈ ks.take j then 1 else 0 := by
          intro n
          have : n ∈ ks.take (j + 1) ↔ n ∈ ks.take j := by rw [htk]; exact ⟨fun h => h.elim id (fun e => e ▸ hin), .inl⟩
          simp [this]
        refine ⟨⟨j + 1, cm, hjl, by go_num, hcm.alloc _, by omega, ?_, ?_, hf.alloc _⟩, by simp [intOf]; omega⟩
        · intro n hn
          have : n ∈ ks.take (j + 1) ↔ n ∈ ks.take j := by rw [htk]; exact ⟨fun h => h.elim id (fun e => e ▸ hin), .inl⟩
          rw [hlk n hn]
          simp [this]
        · simp only [hsame]
          exact hGr.keep ((Fr.refl wr (fun _ => False)).alloc _) (by simp)
      · have hlk0 : look cm (nk kk) = none := by rw [hlk kk hk4, if_neg hin]
        have hml := keys_length hm.nd (c := fun n => c n + if n ∈ ks.take j then 1 else 0) (fun n hn => by rw [hmk n hn]; split <;> simp_all) hmo
        have hm4 : m.length ≤ 4 := by rw [hml]; exact Nat.le_trans (List.length_filter_le _ _) (by simp)
        have hck := hmk kk hk4
        rw [if_neg hin] at hck
        have hclt := hcm.lt
        have hgl := hG.lt
        have hnl := hna.lt
        have hSr := hS.keep hf (hS.neMp (hG.ex.choose_spec.1))
        have hTr := hT.keep hf (hT.neMp (hG.ex.choose_spec.1))
        have hnar := hna.keep hf hne
        have hbnd := hc kk
        by_cases hc0 : c kk = 0
        · have hcv : (look m (nk kk)).getD (.agg #[.string ⟨#[]⟩, .int .i64 0]) = .agg #[.string ⟨#[]⟩, .int .i64 0] := by rw [hck, hc0]; rfl
          go_wp2_with (first
            | (at_lookup; refine wpList_look _ rfl _ _ 118 rfl (hcm.alloc _) Yba.underlying118 (zero4 _) (nk kk) rfl rfl (nk_size _) (u := .bool false) (by rw [hlk0]; rfl) ?_)
            | (at_mapUpdate; refine wpList_upd _ rfl _ _ _ 118 rfl (hcm.alloc _) Yba.underlying118 (by unfold maxLen; omega) (nk kk) (.bool true) rfl rfl rfl (nk_size _) ?_; intro w2 hcm2 hg2; have hF2 := ((Fr.refl wr (fun k => k = w.heap.size)).alloc _).grown hg2 (by intro k e _; cases e; rfl); have hS2 := hSr.keep hF2 (hSr.neMp hcm); have hT2 := hTr.keep hF2 (hTr.neMp hcm); have hm2 := hm.keep hF2 (by omega); have hna2 := hnar.keep hF2 (by omega); have s10 := hS2.cell? 10; have s10' := fun A : Obj => (Blk.alloc hS2 A).cell? 10; have s9 := fun A : Obj => (Blk.alloc hS2 A).cell? 9; have t2 := fun A : Obj => (Blk.alloc hT2 A).cell? 2)
            | (at_lookup; refine wpList_look _ rfl _ _ 45 rfl hm2 Yba.underlying45 (zero77 _) (nk kk) rfl rfl (nk_size _) hcv ?_)
            | (at_lookup; refine wpList_look _ rfl _ _ 66 rfl (hna2.alloc _) Yba.underlying66 (zero9 _) (nk kk) rfl rfl (nk_size _) (u := .string ⟨#[]⟩) rfl ?_)
            | fail)
          obtain ⟨w3, hrun3, hm3, hg3⟩ := ((hm2.alloc (.cells #[.string ⟨#[]⟩, .int .i64 1] 77)).drew).upd Yba.underlying45 (by unfold maxLen; omega) (nk_size kk) (.agg #[.string ⟨#[]⟩, .int .i64 1])
          go_region
          go_wp2_with fail
          refine count_step hjl hk4 hgl hin htk hcl hlk hmk hmo hf hF2 ((((Fr.refl w2 _).alloc _).drew).grown hg3 (by intro k e _; cases e; rfl)) hcm2 (by rw [hc0]; exact hm3)
        · have hcv : (look m (nk kk)).getD (.agg #[.string ⟨#[]⟩, .int .i64 0]) = .agg #[.string ⟨#[]⟩, .int .i64 (c kk)] := by rw [hck, if_neg (by omega)]; rfl
          go_wp2_with (first
            | (at_lookup; refine wpList_look _ rfl _ _ 118 rfl (hcm.alloc _) Yba.underlying118 (zero4 _) (nk kk) rfl rfl (nk_size _) (u := .bool false) (by rw [hlk0]; rfl) ?_)
            | (at_mapUpdate; refine wpList_upd _ rfl _ _ _ 118 rfl (hcm.alloc _) Yba.underlying118 (by unfold maxLen; omega) (nk kk) (.bool true) rfl rfl rfl (nk_size _) ?_; intro w2 hcm2 hg2; have hF2 := ((Fr.refl wr (fun k => k = w.heap.size)).alloc _).grown hg2 (by intro k e _; cases e; rfl); have hS2 := hSr.keep hF2 (hSr.neMp hcm); have hT2 := hTr.keep hF2 (hTr.neMp hcm); have hm2 := hm.keep hF2 (by omega); have hna2 := hnar.keep hF2 (by omega); have s10 := hS2.cell? 10; have s10' := fun A : Obj => (Blk.alloc hS2 A).cell? 10; have s9 := fun A : Obj => (Blk.alloc hS2 A).cell? 9; have t2 := fun A : Obj => (Blk.alloc hT2 A).cell? 2)
            | (at_lookup; refine wpList_look _ rfl _ _ 45 rfl hm2 Yba.underlying45 (zero77 _) (nk kk) rfl rfl (nk_size _) hcv ?_)
            | (at_lookup; refine wpList_look _ rfl _ _ 66 rfl (hna2.alloc _) Yba.underlying66 (zero9 _) (nk kk) rfl rfl (nk_size _) (u := .string ⟨#[]⟩) rfl ?_)
            | fail)
          obtain ⟨w3, hrun3, hm3, hg3⟩ := ((hm2.alloc (.cells #[.string ⟨#[]⟩, .int .i64 (c kk + 1)] 77)).drew).upd Yba.underlying45 (by unfold maxLen; omega) (nk_size kk) (.agg #[.string ⟨#[]⟩, .int .i64 (c kk + 1)])
          go_region
          go_wp2_with fail
          refine count_step hjl hk4 hgl hin htk hcl hlk hmk hmo hf hF2 ((((Fr.refl w2 _).alloc _).drew).grown hg3 (by intro k e _; cases e; rfl)) hcm2 (by exact hm3)
    · have hje : j = ks.length := by omega
      subst hje
      rw [List.take_length] at hGr
      go_wp2_with fail
      go_end0
      exact ⟨rfl, hGr, hf⟩
end Go.Proofs.Ybulkuvc
