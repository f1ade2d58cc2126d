/- cloneWithRoom over an empty map; (*tables).cloneFor. -/
import Derived.Test.YbulkuvcEdit
namespace Go.Proofs.Ybulkuvc
open Go.RowKit Go.Maps Go.WideMaps

theorem mk65h (n : Int) (w : World) : (Instr.makeMap 65 (some (.int .i64 n))).run Yba.prog w = .ok (.map (some w.heap.size)) (w.alloc (.map #[] 0)) := by
  simp [Instr.makeMap, run_underlying Yba.underlying65, asInt, asIntOf, Result.andThen]
attribute [local go_sem] mk65h

set_option maxRecDepth 10000 in
set_option maxHeartbeats 1600000 in
theorem room_calls (t n : Nat) (w : World) (h : Mp w t []) (hn : 0 < n) (hn4 : n ≤ 4) :
    Calls Yba.prog 18 #[.map (some t), .int .i64 n] w fun e w' => e = .returned (.map (some w.heap.size)) ∧ Mp w' w.heap.size [] ∧ Fr w w' (fun _ => False) := by
  go_enter Yba.func18, Yba.ntmps18
  go_wp2_with (first
    | (at_len; refine wpList_mlen _ rfl _ 65 rfl h Yba.underlying65 rfl ?_)
    | (at_range; refine wpList_mrange _ rfl _ 65 rfl (h.alloc _) Yba.underlying65 rfl ?_; intro w1 hrg1 hg1 hs1)
    | fail)
  have hf1 : Fr w w1 (fun _ => False) := ((Fr.refl w _).alloc _).grown hg1 (by simp)
  have hm1 : Mp w1 w.heap.size [] := (Mp.made w).keep ((Fr.refl _ (fun _ => False)).grown hg1 (by simp)) (by simp)
  go_frame
  go_loopw [6] (fun _ wq => wq = w1) (fun _ _ => 0)
  case atStart => rfl
  case round =>
    subst hrel
    go_wp2_with (first
      | (at_next; refine wpList_mnext0 _ rfl _ rfl hrg1 rfl ?_)
      | fail)
    go_ret
    exact ⟨rfl, hm1, hf1⟩

set_option maxRecDepth 10000 in
set_option maxHeartbeats 1600000 in
theorem cloneFor_calls (D S L a t na ra a' t' na' ra' : Nat) (ed : Int) (v : Value) (m : Ents) (w : World) (hD : Dra w D S a' t' na' ra' ed v) (ha' : Mp w a' []) (ht' : Mp w t' m) (hT : Tab w L a t na ra) (htn : Mp w t []) (hml : m.length ≤ 4) :
    Calls Yba.prog 11 #[.pointer (some ⟨L, 0, none⟩), .pointer (some ⟨D, 0, none⟩)] w fun e w' => ∃ tt, e = .returned (.pointer (some ⟨w.heap.size, 0, none⟩)) ∧ Tab w' w.heap.size a tt na ra ∧ Mp w' tt [] ∧ (tt = t ∧ m = [] ∨ w.heap.size ≤ tt) ∧ Fr w w' (fun _ => False) := by
  have l0 := hT.cell? 0
  have l1 := hT.cell? 1
  have l2 := hT.cell? 2
  have l3 := hT.cell? 3
  have d1 := fun A : Obj => (Blk.alloc hD A).cell? 1
  have d2 := fun A : Obj => (Blk.alloc hD A).cell? 2
  have d2' := fun A : Obj => (Blk.alloc hD A).cell? 2
  have l1' := fun A : Obj => (Blk.alloc hT A).cell? 1
  cases m with
  | nil =>
    go_enter Yba.func11, Yba.ntmps11
    go_wp2_with (first
      | (at_len; refine wpList_mlen _ rfl _ 64 rfl (ha'.alloc _) Yba.underlying64 rfl ?_)
      | (at_len; refine wpList_mlen _ rfl _ 65 rfl (ht'.alloc _) Yba.underlying65 rfl ?_)
      | fail)
    go_ret
    exact ⟨t, rfl, Blk.new _ _ _, htn.alloc _, .inl (by simp), (Fr.refl w _).alloc _⟩
  | cons p m =>
    go_enter Yba.func11, Yba.ntmps11
    go_wp2_with (first
      | (at_len; refine wpList_mlen _ rfl _ 64 rfl (ha'.alloc _) Yba.underlying64 rfl ?_)
      | (at_len; refine wpList_mlen _ rfl _ 65 rfl (ht'.alloc _) Yba.underlying65 rfl ?_)
      | fail)
    have hA := Blk.new w #[.map (some a), .map (some t), .map (some na), .map (some ra)] 72
    have hln : ∀ (A : Obj) (ty : TypeId), (Builtin.len_ #[65] ty #[.map (some t')]).run Yba.prog (w.alloc A).drew = .ok (.int .i64 (m.length + 1 : Nat)) (w.alloc A).drew := fun A ty => ((ht'.alloc A).drew).len Yba.underlying65 ty
    clear d1 l0 l1 l2 l3
    go_region_with (go_at_call 18; refine Calls.mono (room_calls t (m.length + 1) _ ((htn.alloc _).drew) (by omega) (by simpa using hml)) ?_; rintro e w2 ⟨rfl, hm2, hf2⟩; have hb2 := Blk.keep (w := (w.alloc (.cells #[.map (some a), .map (some t), .map (some na), .map (some ra)] 72)).drew) hA hf2 (by simp); have k1 := hb2.cell? 1; have k1f := hb2.free 1)
    all_goals go_wp2_with fail
    all_goals
      go_ret
      refine ⟨w.heap.size + 1, rfl, ?_, ?_, .inr (by omega), ?_⟩
      · unfold Tab
        have := hb2.set 1 (.map (some (w.heap.size + 1)))
        simpa using this
      · have hm3 : Mp w2 (w.heap.size + 1) [] := by simpa using hm2
        exact hm3.setCell (by simp) _
      · exact (((Fr.refl w _).alloc _).drew.trans hf2 (fun _ _ e => e)).setCell (by simp) _
end Go.Proofs.Ybulkuvc
