/- Frames; blocks of cells; the role's grants as they lie in memory. -/
import Derived.Test.YbulkuvcMaps
import Derived.WalkSpells
import Derived.WalkLawsBesides
import Derived.Below
import Derived.Deep.AppendLies
namespace Go.Proofs.Ybulkuvc
open Go.RowKit Go.Maps Go.WideMaps

/-- w' is w but for the blocks in S, and new ones. -/
structure Fr (w w' : World) (S : Nat → Prop) : Prop where
  os : w'.os = w.os
  tape : w'.tape = w.tape
  output : w'.output = w.output
  size : w.heap.size ≤ w'.heap.size
  block : ∀ k, k < w.heap.size → ¬ S k → w'.heap[k]? = w.heap[k]?

theorem Fr.refl (w : World) (S : Nat → Prop) : Fr w w S := ⟨rfl, rfl, rfl, Nat.le_refl _, fun _ _ _ => rfl⟩
theorem Fr.trans {w w' w'' : World} {S S' : Nat → Prop} (h : Fr w w' S) (h' : Fr w' w'' S') (hs : ∀ k, k < w.heap.size → S' k → S k) : Fr w w'' S :=
  ⟨h'.os.trans h.os, h'.tape.trans h.tape, h'.output.trans h.output, Nat.le_trans h.size h'.size, fun k hk hn => (h'.block k (Nat.lt_of_lt_of_le hk h.size) (fun e => hn (hs k hk e))).trans (h.block k hk hn)⟩
theorem Fr.mono {w w' : World} {S S' : Nat → Prop} (h : Fr w w' S) (hs : ∀ k, k < w.heap.size → S k → S' k) : Fr w w' S' := ⟨h.os, h.tape, h.output, h.size, fun k hk hn => h.block k hk fun e => hn (hs k hk e)⟩
theorem Fr.alloc {w w' : World} {S : Nat → Prop} (h : Fr w w' S) (o : Obj) : Fr w (w'.alloc o) S :=
  ⟨h.os, h.tape, h.output, by have := h.size; simp; omega, fun k hk hn => (Below.heap_alloc w' o k (Nat.lt_of_lt_of_le hk h.size)).trans (h.block k hk hn)⟩
theorem Fr.drew {w w' : World} {S : Nat → Prop} (h : Fr w w' S) : Fr w w'.drew S := ⟨h.os, h.tape, h.output, h.size, h.block⟩
theorem Fr.setCell {w w' : World} {S : Nat → Prop} (h : Fr w w' S) {a : Addr} (ha : a.block < w.heap.size → S a.block) (u : Value) : Fr w (w'.setCell a u) S :=
  ⟨h.os, h.tape, h.output, by have := h.size; simpa using this, fun k hk hn => (Below.heap_setCell w' a u k (fun e => hn (e ▸ ha (e ▸ hk)))).trans (h.block k hk hn)⟩
theorem Fr.grown {w w' w'' : World} {S : Nat → Prop} {row : Option Nat} (h : Fr w w' S) (hg : w'.grownBy w'' row) (hr : ∀ k, row = some k → k < w.heap.size → S k) : Fr w w'' S :=
  ⟨hg.os.trans h.os, hg.tape.trans h.tape, hg.output.trans h.output, Nat.le_trans h.size hg.size, fun k hk hn => (hg.block k (Nat.lt_of_lt_of_le hk h.size) (fun e => hn (hr k e.symm hk))).trans (h.block k hk hn)⟩
theorem Fr.below {w w' : World} {S : Nat → Prop} (h : Fr w w' S) {B : Nat} (hB : B ≤ w.heap.size) (hs : ∀ k, S k → B ≤ k) : Below B w w' :=
  ⟨h.os, h.tape, h.output, h.size, fun k hk => h.block k (Nat.lt_of_lt_of_le hk hB) (fun e => by have := hs k e; omega)⟩
theorem Fr.ofBelow {w w' : World} {S : Nat → Prop} (h : Below w.heap.size w w') : Fr w w' S := ⟨h.os, h.tape, h.output, h.size, fun k hk _ => h.block k hk⟩

/-- Block b is the row cs of cells of type t; none of it is frozen. -/
def Blk (w : World) (b : Nat) (cs : Array Value) (t : TypeId) : Prop := w.heap[b]? = some (.cells cs t (0, 0))

theorem Blk.lt {w : World} {b : Nat} {cs : Array Value} {t : TypeId} (h : Blk w b cs t) : b < w.heap.size := (Array.getElem?_eq_some_iff.1 h).1
theorem Blk.cell? {w : World} {b : Nat} {cs : Array Value} {t : TypeId} (h : Blk w b cs t) (i : Nat) : w.cell? ⟨b, i, none⟩ = cs[i]? := cell_of_row w b i cs t (0, 0) h
theorem Blk.free {w : World} {b : Nat} {cs : Array Value} {t : TypeId} (h : Blk w b cs t) (i : Nat) : w.frozen? ⟨b, i, none⟩ = false := by
  unfold Blk at h; simp [World.frozen?, h]
theorem Blk.set {w : World} {b : Nat} {cs : Array Value} {t : TypeId} (h : Blk w b cs t) (i : Nat) (v : Value) : Blk (w.setCell ⟨b, i, none⟩ v) b (cs.setIfInBounds i v) t := by
  unfold Blk at h ⊢; simp [World.setCell, Array.getElem?_modify, h]
theorem Blk.other {w : World} {b : Nat} {cs : Array Value} {t : TypeId} (h : Blk w b cs t) {a : Addr} (hne : b ≠ a.block) (v : Value) : Blk (w.setCell a v) b cs t := by
  unfold Blk at h ⊢; rw [Below.heap_setCell _ _ _ _ hne]; exact h
theorem Blk.alloc {w : World} {b : Nat} {cs : Array Value} {t : TypeId} (h : Blk w b cs t) (o : Obj) : Blk (w.alloc o) b cs t := by
  have := h.lt
  unfold Blk at h ⊢; rw [Below.heap_alloc _ _ _ this]; exact h
theorem Blk.new (w : World) (cs : Array Value) (t : TypeId) : Blk (w.alloc (.cells cs t (0, 0))) w.heap.size cs t := heap_alloc_new w _
theorem Blk.keep {w w' : World} {b : Nat} {cs : Array Value} {t : TypeId} {S : Nat → Prop} (h : Blk w b cs t) (hf : Fr w w' S) (hn : ¬ S b) : Blk w' b cs t := (hf.block b h.lt hn).trans h
theorem Blk.ne {w : World} {b b' : Nat} {cs cs' : Array Value} {t t' : TypeId} (h : Blk w b cs t) (h' : Blk w b' cs' t') (ht : t ≠ t') : b ≠ b' := by
  rintro rfl
  unfold Blk at h h'
  rw [h] at h'
  simp at h'
  exact ht h'.2
theorem Blk.neMp {w : World} {b b' : Nat} {cs : Array Value} {t : TypeId} {m : Ents} (h : Blk w b cs t) (h' : Mp w b' m) : b ≠ b' := by
  rintro rfl
  obtain ⟨es, c, e⟩ := h'.obj
  unfold Blk at h
  rw [h] at e
  cases e
theorem Blk.neRg {w : World} {b b' r : Nat} {cs : Array Value} {t : TypeId} {m todo : Ents} (h : Blk w b cs t) (h' : Rg w b' r m todo) : b ≠ r := by
  rintro rfl
  obtain ⟨_, _, _, _, e⟩ := h'.obj
  unfold Blk at h
  rw [h] at e
  cases e
theorem Mp.keep {w w' : World} {b : Nat} {m : Ents} {S : Nat → Prop} (h : Mp w b m) (hf : Fr w w' S) (hn : ¬ S b) : Mp w' b m := h.same (hf.block b h.lt hn)
theorem Mp.alloc {w : World} {b : Nat} {m : Ents} (h : Mp w b m) (o : Obj) : Mp (w.alloc o) b m := h.same (Below.heap_alloc _ _ _ h.lt)
theorem Mp.setCell {w : World} {b : Nat} {m : Ents} (h : Mp w b m) {a : Addr} (hne : b ≠ a.block) (u : Value) : Mp (w.setCell a u) b m := h.same (Below.heap_setCell _ _ _ _ hne)

/-- The node keys: "a", "b", "c", "d". -/
def nk (n : Nat) : ByteArray := ⟨#[(97 + n).toUInt8]⟩
theorem nk_inj {m n : Nat} (hm : m < 4) (hn : n < 4) (h : nk m = nk n) : m = n := by
  have : (nk m).data.toList = (nk n).data.toList := by rw [h]
  have h1 : m = 0 ∨ m = 1 ∨ m = 2 ∨ m = 3 := by omega
  have h2 : n = 0 ∨ n = 1 ∨ n = 2 ∨ n = 3 := by omega
  rcases h1 with rfl | rfl | rfl | rfl <;> rcases h2 with rfl | rfl | rfl | rfl <;> first | rfl | (exact absurd this (by decide))

/-- The slice v of Grants names the nodes ks, in their order. -/
structure Gr (w : World) (v : Value) (ks : List Nat) : Prop where
  ex : ∃ g cap cs, v = .slice (some ⟨g, 0, none⟩) ks.length cap ∧ Blk w g cs 58 ∧ ∀ j (h : j < ks.length), cs[j * 2]? = some (.string (nk ks[j])) ∧ cs[j * 2 + 1]? = some (.string ⟨#[]⟩)
  lt4 : ∀ k ∈ ks, k < 4
  len : ks.length ≤ 256

theorem Gr.keep {w w' : World} {v : Value} {ks : List Nat} {S : Nat → Prop} (h : Gr w v ks) (hf : Fr w w' S) (hn : ∀ g cs, Blk w g cs 58 → ¬ S g) : Gr w' v ks := by
  obtain ⟨g, cap, cs, e, hb, hc⟩ := h.ex
  exact ⟨⟨g, cap, cs, e, hb.keep hf (hn g cs hb), hc⟩, h.lt4, h.len⟩
end Go.Proofs.Ybulkuvc
