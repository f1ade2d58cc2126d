/- Blocks of cells that the call itself makes: what is read, what a store leaves. -/
import Derived.Test.YbulkuocRows
import Derived.WalkKit
import Derived.WalkSpells
import Derived.WalkLawsBesides
import Derived.Deep.OwnRows
namespace Go.Proofs.Ybulkuoc
open Go.RowKit

/-- Block b is the row cs of cells of type t; none of it is frozen. -/
def Blk (w : World) (b : Nat) (cs : Array Value) (t : TypeId) : Prop := w.heap[b]? = some (.cells cs t (0, 0))

theorem Blk.lt {w : World} {b : Nat} {cs : Array Value} {t : TypeId} (h : Blk w b cs t) : b < w.heap.size := (Array.getElem?_eq_some_iff.1 h).1
theorem Blk.cell? {w : World} {b : Nat} {cs : Array Value} {t : TypeId} (h : Blk w b cs t) (i : Nat) : w.cell? ⟨b, i, none⟩ = cs[i]? := cell_of_row w b i cs t (0, 0) h
theorem Blk.cell {w : World} {b : Nat} {cs : Array Value} {t : TypeId} (h : Blk w b cs t) {i : Nat} {v : Value} (hv : cs[i]? = some v) : w.cell? ⟨b, i, none⟩ = some v := (h.cell? i).trans hv
theorem Blk.free {w : World} {b : Nat} {cs : Array Value} {t : TypeId} (h : Blk w b cs t) (i : Nat) : w.frozen? ⟨b, i, none⟩ = false := by
  unfold Blk at h; simp [World.frozen?, h]
theorem Blk.set {w : World} {b : Nat} {cs : Array Value} {t : TypeId} (h : Blk w b cs t) (i : Nat) (v : Value) : Blk (w.setCell ⟨b, i, none⟩ v) b (cs.setIfInBounds i v) t := by
  unfold Blk at h ⊢; simp [World.setCell, Array.getElem?_modify, h]
theorem Blk.other {w : World} {b : Nat} {cs : Array Value} {t : TypeId} (h : Blk w b cs t) {a : Addr} (hne : b ≠ a.block) (v : Value) : Blk (w.setCell a v) b cs t := by
  unfold Blk at h ⊢; rw [Below.heap_setCell _ _ _ _ hne]; exact h
theorem Blk.alloc {w : World} {b : Nat} {cs : Array Value} {t : TypeId} (h : Blk w b cs t) (o : Obj) : Blk (w.alloc o) b cs t := by
  have := h.lt
  unfold Blk at h ⊢; rw [Below.heap_alloc _ _ _ this]; exact h
theorem Blk.new (w : World) (cs : Array Value) (t : TypeId) : Blk (w.alloc (.cells cs t (0, 0))) w.heap.size cs t := heap_alloc_new w _
theorem Blk.drew {w : World} {b : Nat} {cs : Array Value} {t : TypeId} (h : Blk w b cs t) : Blk w.drew b cs t := h
theorem Blk.drewN {w : World} {b : Nat} {cs : Array Value} {t : TypeId} (h : Blk w b cs t) (n : Nat) : Blk (w.drewN n) b cs t := h
theorem Blk.below {w w' : World} {b B : Nat} {cs : Array Value} {t : TypeId} (h : Blk w b cs t) (hb : Below B w w') (hlt : b < B) : Blk w' b cs t := (hb.block b hlt).trans h
theorem Blk.ne {w : World} {b b' : Nat} {cs cs' : Array Value} {t t' : TypeId} (h : Blk w b cs t) (h' : Blk w b' cs' t') (ht : t ≠ t') : b ≠ b' := by
  rintro rfl
  unfold Blk at h h'
  rw [h] at h'
  simp at h'
  exact ht h'.2
theorem Blk.old {w : World} {b : Nat} {cs : Array Value} {t : TypeId} (h : Blk w b cs t) : b ≠ w.heap.size := by have := h.lt; omega

theorem madeCells_one (z : Value) (n : Nat) : madeCells #[z] n = Array.replicate n z := by
  apply Array.ext
  · simp [madeCells]
  · intro i h1 h2
    simp [madeCells, Nat.mod_one]

theorem heap_alloc_get (w : World) (o : Obj) (k : Nat) : (w.alloc o).heap[k]? = if k = w.heap.size then some o else w.heap[k]? := by
  show (w.heap.push o)[k]? = _
  rw [Array.getElem?_push]
theorem blk_here {X : World} {k : Nat} {cs : Array Value} {t : TypeId} (hk : k = X.heap.size) : Blk (X.alloc (.cells cs t (0, 0))) k cs t := by subst hk; exact Blk.new X cs t
theorem blk_last {X : World} {k : Nat} {cs : Array Value} {t : TypeId} (hk : k = X.heap.size) : Blk (X.alloc (.cells cs t (0, 0))).drew k cs t := by subst hk; exact Blk.new X cs t

end Go.Proofs.Ybulkuoc
