/- New, draft, newTenant. -/
import Derived.Test.YbulkuvcFrame
namespace Go.Proofs.Ybulkuvc
open Go.RowKit Go.Maps Go.WideMaps

theorem mk64 (w : World) : (Instr.makeMap 64 none).run Yba.prog w = .ok (.map (some w.heap.size)) (w.alloc (.map #[] 0)) := by kernel_rfl
theorem mk65 (w : World) : (Instr.makeMap 65 none).run Yba.prog w = .ok (.map (some w.heap.size)) (w.alloc (.map #[] 0)) := by kernel_rfl
theorem mk66 (w : World) : (Instr.makeMap 66 none).run Yba.prog w = .ok (.map (some w.heap.size)) (w.alloc (.map #[] 0)) := by kernel_rfl
theorem mk45 (w : World) : (Instr.makeMap 45 none).run Yba.prog w = .ok (.map (some w.heap.size)) (w.alloc (.map #[] 0)) := by kernel_rfl
theorem mk59 (w : World) : (Instr.makeMap 59 none).run Yba.prog w = .ok (.map (some w.heap.size)) (w.alloc (.map #[] 0)) := by kernel_rfl
theorem mk60 (w : World) : (Instr.makeMap 60 none).run Yba.prog w = .ok (.map (some w.heap.size)) (w.alloc (.map #[] 0)) := by kernel_rfl
attribute [local go_sem] mk64 mk65 mk66 mk45 mk59 mk60

/-- The store at block S: unlocked; its tables at L, its counts in the map gb. -/
def Sto (w : World) (S L gb : Nat) : Prop := Blk w S #[.int .i32 0, .int .u32 0, .int .i32 0, .int .u32 0, .int .u32 0, .int .u32 0, .int .i32 0, .int .i32 0, .nilIface, .pointer (some ⟨L, 0, none⟩), .map (some gb)] 47
def Tab (w : World) (L a t na ra : Nat) : Prop := Blk w L #[.map (some a), .map (some t), .map (some na), .map (some ra)] 72
def Dra (w : World) (D S a t na ra : Nat) (edits : Int) (now : Value) : Prop := Blk w D #[.pointer (some ⟨S, 0, none⟩), .map (some a), .map (some t), .map (some na), .map (some ra), .int .i64 edits, .slice none 0 0, now] 69

theorem Mp.madeAt (w : World) {k : Nat} (e : k = w.heap.size) : Mp (w.alloc (.map #[] 0)) k [] := by rw [e]; exact Mp.made w
theorem Blk.newAt (w : World) (cs : Array Value) (t : TypeId) {k : Nat} (e : k = w.heap.size) : Blk (w.alloc (.cells cs t (0, 0))) k cs t := by rw [e]; exact Blk.new w cs t

set_option maxRecDepth 10000 in
set_option maxHeartbeats 800000 in
theorem new_calls (w : World) : Calls Yba.prog 4 #[] w fun e w' => e = .returned (.pointer (some ⟨w.heap.size + 6, 0, none⟩)) ∧ Sto w' (w.heap.size + 6) (w.heap.size + 4) (w.heap.size + 5) ∧ Tab w' (w.heap.size + 4) w.heap.size (w.heap.size + 1) (w.heap.size + 2) (w.heap.size + 3) ∧
    Mp w' w.heap.size [] ∧ Mp w' (w.heap.size + 1) [] ∧ Mp w' (w.heap.size + 2) [] ∧ Mp w' (w.heap.size + 3) [] ∧ Mp w' (w.heap.size + 5) [] ∧ w'.heap.size = w.heap.size + 7 ∧ Fr w w' (fun _ => False) := by
  go_enter Yba.func4, Yba.ntmps4
  go_wp2
  go_ret
  refine ⟨rfl, Blk.newAt _ _ _ (by simp), (((Blk.newAt _ _ _ (by simp)).alloc _).alloc _), ((((((Mp.madeAt _ (by simp)).alloc _).alloc _).alloc _).alloc _).alloc _).alloc _, (((((Mp.madeAt _ (by simp)).alloc _).alloc _).alloc _).alloc _).alloc _, ((((Mp.madeAt _ (by simp)).alloc _).alloc _).alloc _).alloc _, (((Mp.madeAt _ (by simp)).alloc _).alloc _).alloc _, (Mp.madeAt _ (by simp)).alloc _, by simp, (((((((Fr.refl w _).alloc _).alloc _).alloc _).alloc _).alloc _).alloc _).alloc _⟩
set_option maxRecDepth 10000 in
set_option maxHeartbeats 800000 in
theorem draft_calls (S : Nat) (w : World) : Calls Yba.prog 5 #[.pointer (some ⟨S, 0, none⟩)] w fun e w' => e = .returned (.pointer (some ⟨w.heap.size + 4, 0, none⟩)) ∧ Dra w' (w.heap.size + 4) S w.heap.size (w.heap.size + 1) (w.heap.size + 2) (w.heap.size + 3) 0 (.slice none 0 0) ∧
    Mp w' w.heap.size [] ∧ Mp w' (w.heap.size + 1) [] ∧ Mp w' (w.heap.size + 2) [] ∧ Mp w' (w.heap.size + 3) [] ∧ w'.heap.size = w.heap.size + 5 ∧ Fr w w' (fun _ => False) := by
  go_enter Yba.func5, Yba.ntmps5
  go_wp2
  go_ret
  refine ⟨rfl, Blk.newAt _ _ _ (by simp), ((((Mp.madeAt _ (by simp)).alloc _).alloc _).alloc _).alloc _, (((Mp.madeAt _ (by simp)).alloc _).alloc _).alloc _, ((Mp.madeAt _ (by simp)).alloc _).alloc _, (Mp.madeAt _ (by simp)).alloc _, by simp, (((((Fr.refl w _).alloc _).alloc _).alloc _).alloc _).alloc _⟩
set_option maxRecDepth 10000 in
set_option maxHeartbeats 800000 in
theorem newTenant_calls (s : ByteArray) (w : World) : Calls Yba.prog 6 #[.string s] w fun e w' => e = .returned (.pointer (some ⟨w.heap.size + 2, 0, none⟩)) ∧ Blk w' (w.heap.size + 2) #[.string s, .map (some w.heap.size), .map (some (w.heap.size + 1))] 62 ∧ Mp w' w.heap.size [] ∧ w'.heap.size = w.heap.size + 3 ∧ Fr w w' (fun _ => False) := by
  go_enter Yba.func6, Yba.ntmps6
  go_wp2
  go_ret
  refine ⟨rfl, Blk.newAt _ _ _ (by simp), ((Mp.madeAt _ (by simp)).alloc _).alloc _, by simp, (((Fr.refl w _).alloc _).alloc _).alloc _⟩
end Go.Proofs.Ybulkuvc
