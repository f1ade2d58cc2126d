/- The plain side: the place of a string in a list; a map from strings to places. -/
import Derived.Maps.OwnSet
namespace Go.Proofs.Ybulkuoc
open Go.Maps

/-- The walk's own test on two strings. -/
def sm (a b : ByteArray) : Bool := a.toList == b.toList
theorem sm_iff {a b : ByteArray} : sm a b = true ↔ a = b := by
  unfold sm
  rw [ByteArray.toList_eq, ByteArray.toList_eq, beq_iff_eq]
  constructor
  · intro h
    have h' : a.data = b.data := Array.toList_inj.1 h
    cases a; cases b; simp at h'; rw [h']
  · intro h; rw [h]
theorem sm_self (a : ByteArray) : sm a a = true := sm_iff.2 rfl

/-- The first place of x in the list; its length where x is not in it. -/
def pos (x : ByteArray) : List ByteArray → Nat
  | [] => 0
  | t :: r => if sm t x then 0 else pos x r + 1

/-- The list with x laid behind it if it is not in it. -/
def ins (x : ByteArray) (l : List ByteArray) : List ByteArray := if pos x l < l.length then l else l ++ [x]

theorem pos_le (x : ByteArray) : ∀ l, pos x l ≤ l.length
  | [] => Nat.le_refl _
  | t :: r => by
    have := pos_le x r
    unfold pos
    split <;> simp <;> omega

theorem pos_get (x : ByteArray) : ∀ l, pos x l < l.length → l[pos x l]? = some x
  | [], h => absurd h (Nat.not_lt_zero _)
  | t :: r, h => by
    unfold pos at h ⊢
    split
    · rename_i e; simp [sm_iff.1 e]
    · rename_i e
      rw [if_neg e] at h
      simp at h
      simpa using pos_get x r h

theorem pos_before (x : ByteArray) : ∀ l k y, k < pos x l → l[k]? = some y → sm y x = false
  | [], k, y, h, _ => absurd h (Nat.not_lt_zero _)
  | t :: r, k, y, h, hy => by
    unfold pos at h
    split at h
    · exact absurd h (Nat.not_lt_zero _)
    · rename_i e
      cases k with
      | zero => simp at hy; subst hy; simpa using e
      | succ k => exact pos_before x r k y (by omega) (by simpa using hy)

theorem pos_eq_of (x : ByteArray) (l : List ByteArray) (k : Nat) (h1 : l[k]? = some x) (h2 : ∀ j y, j < k → l[j]? = some y → sm y x = false) : pos x l = k := by
  have hk : k < l.length := (List.getElem?_eq_some_iff.1 h1).1
  rcases Nat.lt_trichotomy (pos x l) k with h | h | h
  · have := pos_get x l (by omega)
    have := h2 _ _ h this
    rw [sm_self] at this; cases this
  · exact h
  · have := pos_before x l k x h h1
    rw [sm_self] at this; cases this

theorem pos_out_of (x : ByteArray) (l : List ByteArray) (h2 : ∀ j y, j < l.length → l[j]? = some y → sm y x = false) : pos x l = l.length := by
  have h := pos_le x l
  rcases Nat.lt_or_eq_of_le h with h | h
  · have := h2 _ _ h (pos_get x l h); rw [sm_self] at this; cases this
  · exact h

theorem pos_snoc (x y : ByteArray) : ∀ l, pos x (l ++ [y]) = if pos x l < l.length then pos x l else if sm y x then l.length else l.length + 1
  | [] => by simp [pos]
  | t :: r => by
    have ih := pos_snoc x y r
    by_cases e : sm t x = true
    · simp [pos, e]
    · simp only [Bool.not_eq_true] at e
      simp only [List.cons_append, pos, e, List.length_cons]
      rw [ih]
      have := pos_le x r
      by_cases h : pos x r < r.length
      · simp [h]
      · simp [h]
        split <;> omega

theorem ins_length (x : ByteArray) (l : List ByteArray) : (ins x l).length ≤ l.length + 1 := by
  unfold ins; split <;> simp

theorem ins_pos (x : ByteArray) (l : List ByteArray) : pos x (ins x l) = pos x l := by
  unfold ins
  split
  · rfl
  · rename_i h
    rw [pos_snoc, if_neg h]
    have := pos_le x l
    simp [sm_self]
    omega

theorem pos_lt_ins (x : ByteArray) (l : List ByteArray) : pos x l < (ins x l).length := by
  unfold ins
  split
  · assumption
  · have := pos_le x l; simp; omega

theorem ins_of_in {x : ByteArray} {l : List ByteArray} (h : pos x l < l.length) : ins x l = l := by simp [ins, h]
theorem ins_of_out {x : ByteArray} {l : List ByteArray} (h : ¬ pos x l < l.length) : ins x l = l ++ [x] := by simp [ins, h]

/-- Whatever is in the list stays in it. -/
theorem pos_ins_of_in {x y : ByteArray} {l : List ByteArray} (h : pos x l < l.length) : pos x (ins y l) < (ins y l).length := by
  unfold ins
  split
  · exact h
  · rw [pos_snoc, if_pos h]; simp; omega

/-- THE MAP's DATUM: each string of the list at its place. -/
structure MapIs (D : DataW Unit) (ns : List ByteArray) : Prop where
  size : Maps.size D = ns.length
  has : ∀ s : ByteArray, Maps.has D (.string s.data.toList) = decide (pos s ns < ns.length)
  at_ : ∀ s : ByteArray, pos s ns < ns.length → D.atKey (.string s.data.toList) (.lit (.int .i64 0)) = .lit (.int .i64 (pos s ns))

theorem mapIs_nil : MapIs (.map []) [] := ⟨rfl, fun _ => rfl, fun _ h => absurd h (Nat.not_lt_zero _)⟩

theorem toList_ne {s x : ByteArray} (h : sm x s = false) : (Lit.string s.data.toList) ≠ (Lit.string x.data.toList) := by
  intro e
  injection e with e
  have : s.data = x.data := Array.toList_inj.1 e
  have : s = x := by cases s; cases x; simp at this; rw [this]
  rw [this, sm_self] at h
  cases h

theorem mapIs_put {D : DataW Unit} {ns : List ByteArray} {x : ByteArray} (h : MapIs D ns) (ht : Tidy D) (hm : IsMap D) (hk : WideAt.IsKeyLit (.string x.data.toList)) (hx : ¬ pos x ns < ns.length) :
    MapIs (D.put (.string x.data.toList) (.lit (.int .i64 ns.length))) (ns ++ [x]) := by
  have hle := pos_le x ns
  have hxe : pos x ns = ns.length := by omega
  refine ⟨?_, ?_, ?_⟩
  · rw [size_put ht, h.has x, h.size]; simp [hx]
  · intro s
    by_cases e : sm x s = true
    · have e' : x = s := sm_iff.1 e
      subst e'
      rw [has_put_same hm hk]
      simp [pos_snoc, hxe, sm_self]
    · simp only [Bool.not_eq_true] at e
      rw [has_put_other (toList_ne e), h.has s, pos_snoc]
      by_cases hs : pos s ns < ns.length
      · simp [hs]; omega
      · simp [hs, e]
  · intro s hs
    by_cases e : sm x s = true
    · have e' : x = s := sm_iff.1 e
      subst e'
      rw [atKey_put_same hm hk]
      simp [pos_snoc, hxe, sm_self]
    · simp only [Bool.not_eq_true] at e
      rw [pos_snoc] at hs ⊢
      by_cases hs' : pos s ns < ns.length
      · rw [if_pos hs', atKey_put_other (toList_ne e)]
        exact h.at_ s hs'
      · simp [hs', e] at hs

end Go.Proofs.Ybulkuoc
