/- Rows of the call's own that share no memory: a map from names to rows. -/
import Derived.Test.YbulkuocRows
import Derived.WalkKit
import Derived.WalkSpells
import Derived.WalkLawsBesides
import Derived.Below
import Derived.Deep.AppendLies
import Derived.Deep.OwnRows
import Derived.Deep.MidRow
namespace Go.Proofs.Ybulkuoc
open Go.RowKit

/-- A row: its element type, the cells an element, how many elements, the slice, the cells. -/
structure Ent where
  t : TypeId
  sz : Nat
  n : Nat
  v : Value
  xs : List Value

def upd (K : Nat → Option Ent) (k : Nat) (e : Ent) : Nat → Option Ent := fun x => if x = k then some e else K x
theorem upd_same (K : Nat → Option Ent) (k : Nat) (e : Ent) : upd K k e k = some e := by simp [upd]
theorem upd_other (K : Nat → Option Ent) {k x : Nat} (e : Ent) (h : x ≠ k) : upd K k e x = K x := by simp [upd, h]
theorem upd_upd (K : Nat → Option Ent) (k : Nat) (e e' : Ent) : upd (upd K k e) k e' = upd K k e' := by
  funext x; simp only [upd]; split <;> rfl
theorem upd_comm (K : Nat → Option Ent) {k k' : Nat} (e e' : Ent) (h : k ≠ k') : upd (upd K k e) k' e' = upd (upd K k' e') k e := by
  funext x; simp only [upd]
  by_cases h1 : x = k
  · subst h1; simp [h]
  · by_cases h2 : x = k'
    · subst h2; simp [h1]
    · simp [h1, h2]
theorem upd_self {K : Nat → Option Ent} {k : Nat} {e : Ent} (h : K k = some e) : upd K k e = K := by
  funext x; simp only [upd]; split
  · rename_i e'; rw [e', h]
  · rfl

structure Sep (w : World) (base : Nat) (K : Nat → Option Ent) : Prop where
  own : ∀ k e, K k = some e → w.ownsRow base e.t e.sz e.v e.n e.xs
  sep : ∀ k k' e e', k ≠ k' → K k = some e → K k' = some e' → ∀ b, e.v.ownBlock = some b → e'.v.ownBlock ≠ some b

variable {w w' : World} {base : Nat} {K : Nat → Option Ent}

theorem Sep.alloc (h : Sep w base K) (o : Obj) : Sep (w.alloc o) base K := ⟨fun k e hk => (h.own k e hk).alloc o, h.sep⟩
theorem ownsRow_heap {w w' : World} {base : Nat} {t : TypeId} {s n : Nat} {v : Value} {xs : List Value} (h : w.ownsRow base t s v n xs) (he : ∀ b, v.ownBlock = some b → w'.heap[b]? = w.heap[b]?) : w'.ownsRow base t s v n xs := by
  refine ⟨h.1, ?_⟩
  rcases h.2 with h0 | ⟨g, cap, cur, rfl, h2, h3, h4⟩
  · exact .inl h0
  · exact .inr ⟨g, cap, cur, rfl, h2, (he g rfl).trans h3, h4⟩
theorem Sep.heap (h : Sep w base K) (he : ∀ k e b, K k = some e → e.v.ownBlock = some b → w'.heap[b]? = w.heap[b]?) : Sep w' base K := ⟨fun k e hk => ownsRow_heap (h.own k e hk) (fun b hb => he k e b hk hb), h.sep⟩
theorem Sep.drew (h : Sep w base K) : Sep w.drew base K := h.heap (fun _ _ _ _ _ => rfl)
theorem Sep.drewN (h : Sep w base K) (n : Nat) : Sep (w.drewN n) base K := h.heap (fun _ _ _ _ _ => rfl)
/-- A store into a block that is no row's. -/
theorem Sep.setCell (h : Sep w base K) {a : Addr} (ha : ∀ k e, K k = some e → e.v.ownBlock ≠ some a.block) (x : Value) : Sep (w.setCell a x) base K :=
  h.heap (fun k e _ hk hb => Below.heap_setCell _ _ _ _ (fun e' => ha k e hk (e' ▸ hb)))
theorem Sep.drop (h : Sep w base K) (k : Nat) : Sep w base (fun x => if x = k then none else K x) := by
  constructor
  · intro x e hx
    split at hx
    · cases hx
    · exact h.own x e hx
  · intro x y e e' hxy hx hy
    split at hx
    · cases hx
    · split at hy
      · cases hy
      · exact h.sep x y e e' hxy hx hy
/-- A block of another type is no row's. -/
theorem Sep.neTy (h : Sep w base K) {b : Nat} {cs : Array Value} {t : TypeId} (hb : w.heap[b]? = some (.cells cs t (0, 0))) {k : Nat} {e : Ent} (hk : K k = some e) (ht : e.t ≠ t) : e.v.ownBlock ≠ some b := by
  intro ho
  rcases (h.own k e hk).2 with ⟨e1, _⟩ | ⟨g, cap, cur, e1, _, h3, _⟩
  · rw [e1] at ho; simp [Value.ownBlock] at ho
  · rw [e1] at ho
    simp [Value.ownBlock] at ho
    subst ho
    rw [hb] at h3
    simp at h3
    exact ht h3.2.symm
theorem Sep.lt (h : Sep w base K) {k : Nat} {e : Ent} (hk : K k = some e) : ∀ b, e.v.ownBlock = some b → base ≤ b ∧ b < w.heap.size := (h.own k e hk).lt
/-- A new row under a name that was free. -/
theorem Sep.add (h : Sep w base K) {k : Nat} {e : Ent} (ho : w'.ownsRow base e.t e.sz e.v e.n e.xs) (hg : w.grownBy w' none) (hn : ∀ b, e.v.ownBlock = some b → w.heap.size ≤ b) : Sep w' base (upd K k e) := by
  constructor
  · intro x y hx
    simp only [upd] at hx
    split at hx
    · cases hx; exact ho
    · exact ownsRow_heap (h.own x y hx) (fun b hb => hg.block b (h.lt hx b hb).2 (by simp))
  · intro x y e1 e2 hxy hx hy b hb hb2
    simp only [upd] at hx hy
    split at hx
    · split at hy
      · rename_i h1 h2; exact hxy (h1.trans h2.symm)
      · cases hx
        have := hn b hb
        have := (h.lt hy b hb2).2
        omega
    · split at hy
      · cases hy
        have := hn b hb2
        have := (h.lt hx b hb).2
        omega
      · exact h.sep x y e1 e2 hxy hx hy b hb hb2
/-- A row changes: in its own block, or into a new one. -/
theorem Sep.turn (h : Sep w base K) {k : Nat} {e e' : Ent} (hk : K k = some e) (ho : w'.ownsRow base e'.t e'.sz e'.v e'.n e'.xs) (hg : w.grownBy w' e.v.ownBlock) (hn : ∀ b, e'.v.ownBlock = some b → e.v.ownBlock = some b ∨ w.heap.size ≤ b) : Sep w' base (upd K k e') := by
  constructor
  · intro x y hx
    simp only [upd] at hx
    split at hx
    · cases hx; exact ho
    · rename_i hne
      exact ownsRow_heap (h.own x y hx) (fun b hb => hg.block b (h.lt hx b hb).2 (fun e1 => h.sep x k y e hne hx hk b hb e1.symm))
  · intro x y e1 e2 hxy hx hy b hb hb2
    simp only [upd] at hx hy
    split at hx
    · rename_i h1
      split at hy
      · rename_i h2; exact hxy (h1.trans h2.symm)
      · cases hx
        rename_i h2
        rcases hn b hb with h3 | h3
        · exact h.sep k y e e2 (fun e' => h2 e'.symm) hk hy b h3 hb2
        · have := (h.lt hy b hb2).2
          omega
    · rename_i h1
      split at hy
      · cases hy
        rcases hn b hb2 with h3 | h3
        · exact h.sep x k e1 e h1 hx hk b hb h3
        · have := (h.lt hx b hb).2
          omega
      · exact h.sep x y e1 e2 hxy hx hy b hb hb2

/-- A store into element j of a row of one-cell elements. -/
theorem Sep.put (h : Sep w base K) {k t n g c : Nat} {xs : List Value} (hk : K k = some ⟨t, 1, n, .slice (some ⟨g, 0, none⟩) n c, xs⟩) {j : Nat} (x : Value) : Sep (w.setCell ⟨g, j, none⟩ x) base (upd K k ⟨t, 1, n, .slice (some ⟨g, 0, none⟩) n c, xs.set j x⟩) := by
  have ho := h.own k _ hk
  refine h.turn hk ?_ ⟨rfl, rfl, rfl, by simp, fun b _ hb => Below.heap_setCell _ _ _ _ (fun e => hb (by rw [e]; rfl))⟩ (fun b hb => .inl hb)
  refine ⟨by simpa using ho.1, .inr ?_⟩
  rcases ho.2 with ⟨e, _⟩ | ⟨g', cap, cur, e, h2, h3, h4, h5, h6, h7⟩
  · cases e
  · cases e
    refine ⟨g, c, cur.setIfInBounds j x, rfl, h2, ?_, h4, h5, by simpa using h6, ?_⟩
    · simp [World.setCell, Array.getElem?_modify, h3]
    · simp only [Nat.mul_one] at h7 ⊢
      rw [Array.toList_setIfInBounds, List.take_set, h7]

/-- What a cell of a row holds. -/
theorem Sep.cell (h : Sep w base K) {k t n g c : Nat} {xs : List Value} (hk : K k = some ⟨t, 1, n, .slice (some ⟨g, 0, none⟩) n c, xs⟩) {j : Nat} {x : Value} (hx : xs[j]? = some x) : w.cell? ⟨g, j, none⟩ = some x := by
  have ho := h.own k _ hk
  rcases ho.2 with ⟨e, _⟩ | ⟨g', cap, cur, e, h2, h3, h4, h5, h6, h7⟩
  · cases e
  · cases e
    rw [cell_of_row w g j cur t (0, 0) h3]
    have hl := (List.getElem?_eq_some_iff.1 hx).1
    have h1 := ho.1
    simp only [Nat.mul_one] at h7 h1
    rw [← hx, ← h7, List.getElem?_take, if_pos (by omega)]
    simp
theorem Sep.free (h : Sep w base K) {k t n g c s : Nat} {xs : List Value} (hk : K k = some ⟨t, s, n, .slice (some ⟨g, 0, none⟩) n c, xs⟩) (j : Nat) : w.frozen? ⟨g, j, none⟩ = false := by
  have ho := h.own k _ hk
  rcases ho.2 with ⟨e, _⟩ | ⟨g', cap, cur, e, h2, h3, _⟩
  · cases e
  · cases e
    simp [World.frozen?, h3]
/-- What a row's slice looks like. -/
theorem Sep.form (h : Sep w base K) {k : Nat} {e : Ent} (hk : K k = some e) : e.xs.length = e.n * e.sz ∧ ((e.v = .slice none 0 0 ∧ e.n = 0) ∨ ∃ g c, e.v = .slice (some ⟨g, 0, none⟩) e.n c ∧ base ≤ g ∧ g < w.heap.size ∧ e.n ≤ c ∧ c ≤ maxLen) := by
  have ho := h.own k e hk
  refine ⟨ho.1, ?_⟩
  rcases ho.2 with h0 | ⟨g, cap, cur, e1, h2, h3, h4, h5, _⟩
  · exact .inl h0
  · exact .inr ⟨g, cap, e1, h2, (Array.getElem?_eq_some_iff.1 h3).1, h4, h5⟩
end Go.Proofs.Ybulkuoc
