/- What stands ahead of absorb. -/
import Derived.Test.YbulkuocAbsorb
namespace Go.Proofs.Ybulkuoc
open Go.RowKit

/-- The rows with the empty ones. -/
def k1 (K : Nat → Option Ent) : Nat → Option Ent :=
  upd (upd (upd (upd (upd (upd (upd (upd K 12 ⟨3, 1, 0, .slice none 0 0, []⟩) 13 ⟨3, 1, 0, .slice none 0 0, []⟩) 14 ⟨22, 1, 0, .slice none 0 0, []⟩) 18 ⟨120, 2, 0, .slice none 0 0, []⟩) 300 ⟨3, 1, 0, .slice none 0 0, []⟩) 301 ⟨3, 1, 0, .slice none 0 0, []⟩) 400 ⟨3, 1, 0, .slice none 0 0, []⟩) 401 ⟨3, 1, 0, .slice none 0 0, []⟩

theorem k1_other (K : Nat → Option Ent) (n : Nat) (h1 : 19 ≤ n) (h2 : n < 300) : k1 K n = K n := by
  unfold k1
  rw [upd_other _ _ (by omega), upd_other _ _ (by omega), upd_other _ _ (by omega), upd_other _ _ (by omega), upd_other _ _ (by omega), upd_other _ _ (by omega), upd_other _ _ (by omega), upd_other _ _ (by omega)]

theorem k0_other (K : Nat → Option Ent) (N h q : Nat) (d : Nat → Int) (n : Nat) (h1 : 19 ≤ n) (h2 : n ≠ 22) : k0 K N h q d n = K n := by
  unfold k0
  rw [upd_other _ _ (by omega), upd_other _ _ (by omega), upd_other _ _ (by omega), upd_other _ _ (by omega), upd_other _ _ (by omega), upd_other _ _ (by omega), upd_other _ _ (by omega), upd_other _ _ (by omega), upd_other _ _ (by omega), upd_other _ _ (by omega), upd_other _ _ (by omega), upd_other _ _ (by omega), upd_other _ _ h2]

theorem Sep.nilsS {w : World} {base : Nat} {K : Nat → Option Ent} (h : Sep w base K) (t : TypeId) (s k : Nat) : Sep w base (upd K k ⟨t, s, 0, .slice none 0 0, []⟩) :=
  h.add (World.ownsRow_nil w base t s) ⟨rfl, rfl, rfl, Nat.le_refl _, fun _ _ _ => rfl⟩ (fun b hb => by simp [Value.ownBlock] at hb)

theorem St.k1 {c : Tc} {K : Nat → Option Ent} {v : Tv} {w : World} (h : St c K v w) : St c (k1 K) v w := by
  refine { h with sep := ?_, ty := ?_ }
  · exact (((((((h.sep.nilsS 3 1 12).nilsS 3 1 13).nilsS 22 1 14).nilsS 120 2 18).nilsS 3 1 300).nilsS 3 1 301).nilsS 3 1 400).nilsS 3 1 401
  · exact upd_ty (upd_ty (upd_ty (upd_ty (upd_ty (upd_ty (upd_ty (upd_ty h.ty _ _ ty3) _ _ ty3) _ _ ty22) _ _ ty120) _ _ ty3) _ _ ty3) _ _ ty3) _ _ ty3

theorem pl_row0 (N : Nat) : ((madeCells #[Value.int .i32 0] N).setIfInBounds 0 (.int .i32 1)).toList = plRow (plJ []) N := by
  apply List.ext_getElem?
  intro i
  by_cases hi : i < N
  · rw [plRow_get _ hi, Array.getElem?_toList, Array.getElem?_setIfInBounds]
    by_cases h0 : 0 = i
    · subst h0
      simp [plJ, size_madeCells, hi]
    · rw [if_neg h0]
      have : plJ [] i = 0 := by simp [plJ]; omega
      rw [this]
      simp [madeCells, Nat.mod_one, hi]
  · rw [List.getElem?_eq_none (by simp [size_madeCells]; omega), List.getElem?_eq_none (by simp [plRow]; omega)]

def L0 : Nat → Int := fun p => if p = 0 then -1 else 0

theorem init_rw (N base h q : Nat) (va vp : Value) (K : Nat → Option Ent) (d : Nat → Int) : Rw (cst N base h q va vp) (k1 (k0 K N h q d)) (v0 q) (k1 (k0 K N h q d)) [] (fun _ => []) (fun _ => []) L0 92 0 := by
  refine ⟨?_, rfl, ⟨_, rfl, ?_⟩, ⟨_, rfl, ?_⟩, rfl, rfl, ⟨fun _ => 0, rfl, by intro p; dsimp only; omega⟩, rfl, ⟨fun _ => -1, rfl, by intro p; dsimp only; omega⟩, ⟨_, rfl⟩, rfl, ⟨_, rfl⟩, rfl, ⟨rfl, rfl, fun _ => rfl⟩, ⟨[], rfl, by simp⟩, ⟨[], rfl, by simp, by simp⟩, fun k _ _ => rfl, by simp, by simp, by simp, rfl⟩
  · rw [← pl_row0]; rfl
  · intro u hu
    have : u = 0 ∨ u = 1 := by simp at hu; omega
    rcases this with rfl | rfl
    · exact ⟨.slice none 0 0, rfl, rfl⟩
    · exact ⟨.slice none 0 0, rfl, rfl⟩
  · intro u hu
    have : u = 0 ∨ u = 1 := by simp at hu; omega
    rcases this with rfl | rfl
    · exact ⟨.slice none 0 0, rfl, rfl⟩
    · exact ⟨.slice none 0 0, rfl, rfl⟩

/-- The types of the rows of edges. -/
theorem mat_ty {K K' : Nat → Option Ent} {ko kr N : Nat} {v : Value} {A : Nat → List Nat} (hty : ∀ k e, K k = some e → TyOk e.t) (ho : Off ko kr N K K') (hm : Mat K' ko kr N v A) : ∀ k e, K' k = some e → TyOk e.t := by
  intro k e he
  obtain ⟨vs, e1, e2⟩ := hm.ex
  by_cases h1 : k = ko
  · subst h1; rw [e1] at he; cases he; exact ty26
  · by_cases h2 : kr ≤ k ∧ k < kr + N
    · obtain ⟨r, _, q⟩ := e2 (k - kr) (by omega)
      rw [show kr + (k - kr) = k by omega, he] at q
      cases q
      exact ty3
    · rw [ho k h1 h2] at he
      exact hty k e he

theorem Sep.none (w : World) : Sep w w.heap.size (fun _ => none) := ⟨by simp, by simp⟩
end Go.Proofs.Ybulkuoc
