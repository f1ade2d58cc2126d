/- Rows of rows of ints; the law's own edges. -/
import Derived.Test.YbulkuocSep
namespace Go.Proofs.Ybulkuoc
open Go.RowKit

/-- Ints as a row holds them. -/
def ints (l : List Nat) : List Value := l.map fun (n : Nat) => Value.int .i64 (n : Int)
theorem ints_length (l : List Nat) : (ints l).length = l.length := by simp [ints]
theorem ints_get (l : List Nat) (i : Nat) : (ints l)[i]? = l[i]?.map (fun (n : Nat) => Value.int .i64 (n : Int)) := by simp [ints]
theorem ints_at {l : List Nat} {i v : Nat} (h : l[i]? = some v) : (ints l)[i]? = some (.int .i64 (v : Int)) := by rw [ints_get, h]; rfl
theorem ints_snoc (l : List Nat) (x : Nat) : ints (l ++ [x]) = ints l ++ [.int .i64 (x : Int)] := by simp [ints]
theorem ints_set (l : List Nat) (i v : Nat) : (ints l).set i (.int .i64 (v : Int)) = ints (l.set i v) := by simp [ints]

/-- v is a slice of N slices of ints: the rows A; its own row is named ko, the rows kr, kr + 1 .. -/
structure Mat (K : Nat → Option Ent) (ko kr N : Nat) (v : Value) (A : Nat → List Nat) : Prop where
  ex : ∃ vs, K ko = some ⟨26, 1, N, v, vs⟩ ∧ ∀ u, u < N → ∃ r, vs[u]? = some r ∧ K (kr + u) = some ⟨3, 1, (A u).length, r, ints (A u)⟩

theorem Mat.keep {K K' : Nat → Option Ent} {ko kr N : Nat} {v : Value} {A : Nat → List Nat} (h : Mat K ko kr N v A) (h1 : K' ko = K ko) (h2 : ∀ u, u < N → K' (kr + u) = K (kr + u)) : Mat K' ko kr N v A := by
  obtain ⟨vs, e1, e2⟩ := h.ex
  refine ⟨vs, h1.trans e1, fun u hu => ?_⟩
  obtain ⟨r, q1, q2⟩ := e2 u hu
  exact ⟨r, q1, (h2 u hu).trans q2⟩
theorem Mat.congr {K : Nat → Option Ent} {ko kr N : Nat} {v : Value} {A B : Nat → List Nat} (h : Mat K ko kr N v A) (e : ∀ u, u < N → B u = A u) : Mat K ko kr N v B := by
  obtain ⟨vs, e1, e2⟩ := h.ex
  refine ⟨vs, e1, fun u hu => ?_⟩
  obtain ⟨r, q1, q2⟩ := e2 u hu
  exact ⟨r, q1, by rw [e u hu]; exact q2⟩

theorem info3 : (Yba.prog.info? 3).map (fun i => (i.zero, i.size, i.bytes)) = some (some (.int .i64 0), 1, 8) := by kernel_rfl
theorem info26 : (Yba.prog.info? 26).map (fun i => (i.zero, i.size, i.bytes)) = some (some (.slice none 0 0), 1, 24) := by kernel_rfl

/-- A made row of nil rows. -/
theorem Sep.made {w : World} {base : Nat} {K : Nat → Option Ent} (h : Sep w base K) (t : TypeId) (z : Value) (n k : Nat) (hb : base ≤ w.heap.size) (hn : n ≤ maxLen) :
    Sep (w.alloc (.cells (madeCells #[z] n) t)) base (upd K k ⟨t, 1, n, .slice (some ⟨w.heap.size, 0, none⟩) n n, List.replicate n z⟩) := by
  refine h.add ?_ ⟨rfl, rfl, rfl, by simp, fun b hb' _ => Below.heap_alloc _ _ _ hb'⟩ (fun b hb' => by simp [Value.ownBlock] at hb'; omega)
  refine ⟨by simp, .inr ⟨w.heap.size, n, madeCells #[z] n, rfl, hb, heap_alloc_new w _, Nat.le_refl _, hn, by simp [size_madeCells], ?_⟩⟩
  simp only [Nat.mul_one]
  apply List.ext_getElem?
  intro i
  rw [List.getElem?_take, List.getElem?_replicate]
  split
  · rw [Array.getElem?_toList]
    simp [madeCells, Nat.mod_one, *]
  · rfl
theorem Sep.nils {w : World} {base : Nat} {K : Nat → Option Ent} (h : Sep w base K) (t : TypeId) (k : Nat) : Sep w base (upd K k ⟨t, 1, 0, .slice none 0 0, []⟩) :=
  h.add (World.ownsRow_nil w base t 1) ⟨rfl, rfl, rfl, Nat.le_refl _, fun _ _ _ => rfl⟩ (fun b hb => by simp [Value.ownBlock] at hb)

/-- Many nil rows at once. -/
theorem Sep.nilRows {w : World} {base : Nat} (t : TypeId) (kr : Nat) : ∀ (N : Nat) {K : Nat → Option Ent}, Sep w base K → Sep w base (fun x => if kr ≤ x ∧ x < kr + N then some ⟨t, 1, 0, .slice none 0 0, []⟩ else K x)
  | 0, K, h => by
    have : (fun x => if kr ≤ x ∧ x < kr + 0 then some (⟨t, 1, 0, .slice none 0 0, []⟩ : Ent) else K x) = K := by
      funext x; rw [if_neg (by omega)]
    rw [this]; exact h
  | N + 1, K, h => by
    have h1 := (Sep.nilRows t kr N h).nils t (kr + N)
    have : upd (fun x => if kr ≤ x ∧ x < kr + N then some (⟨t, 1, 0, .slice none 0 0, []⟩ : Ent) else K x) (kr + N) ⟨t, 1, 0, .slice none 0 0, []⟩ = fun x => if kr ≤ x ∧ x < kr + (N + 1) then some (⟨t, 1, 0, .slice none 0 0, []⟩ : Ent) else K x := by
      funext x
      simp only [upd]
      by_cases e : x = kr + N
      · subst e; rw [if_pos rfl, if_pos (by omega)]
      · rw [if_neg e]
        by_cases e2 : kr ≤ x ∧ x < kr + N
        · rw [if_pos e2, if_pos (by omega)]
        · rw [if_neg e2, if_neg (by omega)]
    rw [← this]; exact h1

/-- append of one element to a row that has a name. -/
theorem wpList_app1 {ops : Array Oper} {rest : List Oper} {o : Oper} {a : Act} {Q : Exit → Act → World → Prop} (W : World) (hgd : o.guard = none) (s x : Operand) (t : TypeId) (ho : o.op = .call { callee := .builtin .append, args := #[s, x], argTypes := #[t, t] })
    {base : Nat} {e : TypeId} {K : Nat → Option Ent} (hs : Sep W base K) {k n : Nat} {v : Value} {xs : List Value} (hk : K k = some ⟨e, 1, n, v, xs⟩) (ht : Yba.prog.underlying t = some (.slice e)) {z : Value} {bytes : Nat} (hinfo : (Yba.prog.info? e).map (fun i => (i.zero, i.size, i.bytes)) = some (some z, 1, bytes)) (hzc : z.cells.size = 1)
    (hse : a.eval s = v) (B c : Nat) (y : Value) (hx : a.eval x = .slice (some ⟨B, 0, none⟩) 1 c) (hB : W.cell? ⟨B, 0, none⟩ = some y) (hy : y.oneCell' = true) (hn : n + 1 ≤ 1000000) (hbytes : bytes ≤ 64) (hb : base ≤ W.heap.size)
    (hK : ∀ g c' w', Sep w' base (upd K k ⟨e, 1, n + 1, .slice (some ⟨g, 0, none⟩) (n + 1) c', xs ++ [y]⟩) → W.grownBy w' v.ownBlock → Below base W w' → wpList Yba.prog ops Q rest (a.put o.dst (.slice (some ⟨g, 0, none⟩) (n + 1) c')) w') : wpList Yba.prog ops Q (o :: rest) a W := by
  obtain ⟨i3, hi, hz0, hz1, hz2⟩ := info_parts hinfo
  have hbb : (n + 1) * bytes ≤ 1000000 * 64 := Nat.mul_le_mul hn hbytes
  refine wpList_append_lies W hgd s x t ho base e i3 z 1 bytes ht hi hz0 hz1 hz2 hzc (by omega) v n xs hse (hs.own k _ hk) ⟨B, 0, none⟩ 1 c [y] hx rfl ?_ (by simpa using hy) (by omega) (by unfold maxLen; omega) (by omega) hb W.heap.size rfl ?_
  · intro j u hj
    cases j with
    | zero => simp at hj; subst hj; simpa [Addr.add] using hB
    | succ j => simp at hj
  · intro g c' w' ho' hg hat hlt
    refine hK g c' w' (hs.turn hk ho' hg ?_) hg ((Below.refl base W).grown hg hb (fun b hb' => (hs.lt hk b hb').1))
    intro b hb'
    simp [Value.ownBlock] at hb'
    subst hb'
    rcases hat with h | h
    · exact .inl h
    · exact .inr (by omega)

/-- m[u] = append(m[u], x): the store behind the append. -/
theorem Mat.push {w1 : World} {base : Nat} {K : Nat → Option Ent} {ko kr N g c u x : Nat} {A : Nat → List Nat} {r' : Value} (hm : Mat K ko kr N (.slice (some ⟨g, 0, none⟩) N c) A) (hu : u < N) (hko : ∀ y, y < N → ko ≠ kr + y)
    (h1 : Sep w1 base (upd K (kr + u) ⟨3, 1, (A u).length + 1, r', ints (A u) ++ [.int .i64 (x : Int)]⟩)) :
    (∃ r, w1.cell? ⟨g, u, none⟩ = some r) ∧ w1.frozen? ⟨g, u, none⟩ = false ∧ base ≤ g ∧ ∃ K2, Sep (w1.setCell ⟨g, u, none⟩ r') base K2 ∧ Mat K2 ko kr N (.slice (some ⟨g, 0, none⟩) N c) (fun y => if y = u then A u ++ [x] else A y) ∧ ∀ y, y ≠ ko → y ≠ kr + u → K2 y = K y := by
  obtain ⟨vs, e1, e2⟩ := hm.ex
  have hko' := hko u hu
  have e3 : upd K (kr + u) ⟨3, 1, (A u).length + 1, r', ints (A u) ++ [.int .i64 (x : Int)]⟩ ko = some ⟨26, 1, N, .slice (some ⟨g, 0, none⟩) N c, vs⟩ := by rw [upd_other _ _ hko']; exact e1
  obtain ⟨r0, q1, q2⟩ := e2 u hu
  refine ⟨⟨r0, h1.cell e3 q1⟩, h1.free e3 u, (h1.lt e3 g rfl).1, _, h1.put e3 (j := u) r', ⟨vs.set u r', ?_, ?_⟩, ?_⟩
  · rw [upd_same]
  · intro y hy
    obtain ⟨ry, p1, p2⟩ := e2 y hy
    have hky := hko y hy
    by_cases e : y = u
    · subst e
      refine ⟨r', ?_, ?_⟩
      · have := (List.getElem?_eq_some_iff.1 p1).1
        simp [this]
      · rw [upd_other _ _ (Ne.symm hky), upd_same]
        simp [ints_snoc]
    · refine ⟨ry, ?_, ?_⟩
      · rw [List.getElem?_set, if_neg (Ne.symm e)]; exact p1
      · rw [upd_other _ _ (Ne.symm hky), upd_other _ _ (by omega), if_neg e]; exact p2
  · intro y h2 h3
    rw [upd_other _ _ h2, upd_other _ _ h3]
/-- Row u of a matrix. -/
theorem Mat.row {w : World} {base : Nat} {K : Nat → Option Ent} {ko kr N g c u : Nat} {A : Nat → List Nat} (hs : Sep w base K) (hm : Mat K ko kr N (.slice (some ⟨g, 0, none⟩) N c) A) (hu : u < N) : ∃ r, w.cell? ⟨g, u, none⟩ = some r ∧ K (kr + u) = some ⟨3, 1, (A u).length, r, ints (A u)⟩ := by
  obtain ⟨vs, e1, e2⟩ := hm.ex
  obtain ⟨r, q1, q2⟩ := e2 u hu
  exact ⟨r, hs.cell e1 q1, q2⟩
end Go.Proofs.Ybulkuoc
