/- Maps keyed by strings that the call itself makes, whatever their elements: as a list of entries. -/
import Derived.Test.YbulkuvcRows
import Derived.WalkKit
import Derived.Maps.OwnSet
import Derived.Maps.Range
namespace Go.Proofs.Ybulkuvc
open Go.RowKit Go.Maps Go.WideMaps

def Rv (v : Value) : Option (DataW Value × List MemPlace) := some (.held v, [])
theorem law9 : Keyed Yba.prog 9 := string_keyed Yba.underlying9
def ky (s : ByteArray) : Lit := .string s.data.toList

theorem ky_inj {s t : ByteArray} (h : ky s = ky t) : s = t := by
  unfold ky at h
  injection h with h
  exact WideShapes.bytes_inj h
theorem ky_ne {s t : ByteArray} (h : s ≠ t) : ky s ≠ ky t := fun e => h (ky_inj e)

abbrev Ents := List (ByteArray × Value)
def look (m : Ents) (s : ByteArray) : Option Value := (m.find? (fun p => decide (p.1 = s))).map (·.2)
def put (m : Ents) (s : ByteArray) (v : Value) : Ents := if (look m s).isSome then m.map (fun p => if p.1 = s then (s, v) else p) else m ++ [(s, v)]

theorem look_nil (s : ByteArray) : look [] s = none := rfl
theorem look_cons (p : ByteArray × Value) (m : Ents) (s : ByteArray) : look (p :: m) s = if p.1 = s then some p.2 else look m s := by
  unfold look
  by_cases h : p.1 = s <;> simp [h]
theorem look_append (m l : Ents) (s : ByteArray) : look (m ++ l) s = (look m s).or (look l s) := by
  unfold look
  rw [List.find?_append]
  cases (m.find? fun p => decide (p.1 = s)) <;> simp
theorem look_isSome (m : Ents) (s : ByteArray) : (look m s).isSome = true ↔ ∃ v, (s, v) ∈ m := by
  unfold look
  rw [Option.isSome_map, List.find?_isSome]
  constructor
  · rintro ⟨p, hp, e⟩
    simp at e
    exact ⟨p.2, by rw [← e]; exact hp⟩
  · rintro ⟨v, hv⟩
    exact ⟨_, hv, by simp⟩
theorem look_none (m : Ents) (s : ByteArray) : look m s = none ↔ ∀ v, (s, v) ∉ m := by
  rw [← Option.not_isSome_iff_eq_none, look_isSome]
  simp
theorem look_mem {m : Ents} (hn : (m.map Prod.fst).Nodup) {s : ByteArray} {v : Value} (h : (s, v) ∈ m) : look m s = some v := by
  induction m with
  | nil => simp at h
  | cons p m ih =>
    rw [look_cons]
    simp only [List.map_cons, List.nodup_cons] at hn
    rcases List.mem_cons.1 h with e | h
    · rw [← e]; simp
    · rw [if_neg, ih hn.2 h]
      intro e
      exact hn.1 (List.mem_map.2 ⟨_, h, e.symm⟩)
theorem mem_of_look {m : Ents} {s : ByteArray} {v : Value} (h : look m s = some v) : (s, v) ∈ m := by
  induction m with
  | nil => simp [look_nil] at h
  | cons p m ih =>
    rw [look_cons] at h
    by_cases e : p.1 = s
    · rw [if_pos e] at h
      cases h
      simp [← e]
    · rw [if_neg e] at h
      exact List.mem_cons_of_mem _ (ih h)
theorem look_put (m : Ents) (s : ByteArray) (v : Value) (x : ByteArray) : look (put m s v) x = if x = s then some v else look m x := by
  unfold put
  split
  · rename_i h
    have key : ∀ l : Ents, look (l.map fun p => if p.1 = s then (s, v) else p) x = if x = s then (look l x).map (fun _ => v) else look l x := by
      intro l
      induction l with
      | nil => simp [look_nil]
      | cons p l ih =>
        rw [List.map_cons, look_cons, look_cons, ih]
        by_cases e : p.1 = s
        · by_cases e2 : x = s
          · simp [e, e2]
          · have : ¬ s = x := fun e3 => e2 e3.symm
            simp [e, e2, this]
        · by_cases e2 : x = s
          · subst e2; simp [e]
          · simp [e, e2]
    rw [key]
    by_cases e : x = s
    · subst e
      obtain ⟨u, hu⟩ := Option.isSome_iff_exists.1 h
      simp [hu]
    · simp [e]
  · rename_i h
    have h' : look m s = none := by simpa using h
    rw [look_append, look_cons, look_nil]
    by_cases e : x = s
    · subst e; simp [h']
    · have : ¬ s = x := fun e3 => e e3.symm
      simp [e, this]
theorem put_fst (m : Ents) (s : ByteArray) (v : Value) : (put m s v).map Prod.fst = if (look m s).isSome then m.map Prod.fst else m.map Prod.fst ++ [s] := by
  unfold put
  split
  · rw [List.map_map]
    apply List.map_congr_left
    intro p _
    simp only [Function.comp]
    split
    · rename_i e; exact e.symm
    · rfl
  · simp
theorem put_nodup {m : Ents} (h : (m.map Prod.fst).Nodup) (s : ByteArray) (v : Value) : ((put m s v).map Prod.fst).Nodup := by
  rw [put_fst]
  split
  · exact h
  · rename_i hn
    rw [List.nodup_append]
    refine ⟨h, by simp, ?_⟩
    intro a ha b hb e
    simp at hb
    subst hb
    subst e
    obtain ⟨p, hp, rfl⟩ := List.mem_map.1 ha
    exact hn ((look_isSome m p.1).2 ⟨p.2, hp⟩)
theorem put_length (m : Ents) (s : ByteArray) (v : Value) : (put m s v).length = if (look m s).isSome then m.length else m.length + 1 := by
  have := congrArg List.length (put_fst m s v)
  rw [List.length_map] at this
  rw [this]
  split <;> simp
theorem put_new {m : Ents} {s : ByteArray} (h : look m s = none) (v : Value) : put m s v = m ++ [(s, v)] := by simp [put, h]

/-- Block b is a map that holds just the entries m. -/
structure Mp (w : World) (b : Nat) (m : Ents) : Prop where
  nd : (m.map Prod.fst).Nodup
  sm : ∀ s, s ∈ m.map Prod.fst → s.size ≤ maxLen
  ex : ∃ D : DataW Value, w.ownsMap Yba.prog 9 Rv b m.length D ∧ Maps.size D = m.length ∧ ∀ s, Maps.has D (ky s) = (look m s).isSome ∧ ∀ z, D.atKey (ky s) z = (match look m s with | some v => .held v | none => z)

theorem Mp.lt {w : World} {b : Nat} {m : Ents} (h : Mp w b m) : b < w.heap.size := by
  obtain ⟨D, hown, _⟩ := h.ex
  exact hown.lt
theorem Mp.obj {w : World} {b : Nat} {m : Ents} (h : Mp w b m) : ∃ es c, w.heap[b]? = some (.map es c) := by
  obtain ⟨D, ⟨es, c, hb, _⟩, _⟩ := h.ex
  exact ⟨es, c, hb⟩
theorem Mp.same {w w' : World} {b : Nat} {m : Ents} (h : Mp w b m) (e : w'.heap[b]? = w.heap[b]?) : Mp w' b m := by
  obtain ⟨D, ⟨es, c, hb, r⟩, q⟩ := h.ex
  exact ⟨h.nd, h.sm, D, ⟨es, c, e.trans hb, r⟩, q⟩
theorem Mp.made (w : World) : Mp (w.alloc (.map #[] 0)) w.heap.size [] :=
  ⟨by simp, by simp, .map [], World.ownsMap_made w _ 9 _, rfl, fun _ => ⟨rfl, fun _ => rfl⟩⟩

theorem own_tight {w : World} {b n : Nat} {D : DataW Value} (h : w.ownsMap Yba.prog 9 Rv b n D) : w.ownsMap Yba.prog 9 Rv b (Maps.size D) D := by
  obtain ⟨es, c, hb, F, _, rfl⟩ := h
  exact ⟨es, c, hb, F, by simp [Maps.size, length_sorted], rfl⟩

/-- m[s], with or without ok. -/
theorem Mp.look_ok {w : World} {b : Nat} {m : Ents} (h : Mp w b m) {t e : TypeId} (ht : Yba.prog.underlying t = some (.map 9 e)) {z : Value} (hz : (zeroValue e).run Yba.prog w = .ok z w) {s : ByteArray} (hs : s.size ≤ maxLen) :
    (Instr.lookup t (.map (some b)) (.string s) true).run Yba.prog w = .ok (.tuple #[(look m s).getD z, .bool (look m s).isSome]) w := by
  obtain ⟨D, hown, _, hD⟩ := h.ex
  obtain ⟨v, ps, hrun, hv⟩ := hown.look_ok law9 ht hz (show Rv z = some (.held z, []) from rfl) (keyOf_string_mk Yba.underlying9 hs)
  rw [hrun]
  have e1 := (hD s).1
  have e2 := (hD s).2 (.held z)
  unfold ky at e1 e2
  rw [e1]
  rw [e2] at hv
  unfold Rv at hv
  simp only [Option.some.injEq, Prod.mk.injEq] at hv
  cases hl : look m s <;> rw [hl] at hv <;> simp at hv <;> simp [hv.1]
theorem Mp.look {w : World} {b : Nat} {m : Ents} (h : Mp w b m) {t e : TypeId} (ht : Yba.prog.underlying t = some (.map 9 e)) {z : Value} (hz : (zeroValue e).run Yba.prog w = .ok z w) {s : ByteArray} (hs : s.size ≤ maxLen) :
    (Instr.lookup t (.map (some b)) (.string s) false).run Yba.prog w = .ok ((look m s).getD z) w := by
  obtain ⟨D, hown, _, hD⟩ := h.ex
  obtain ⟨v, ps, hrun, hv⟩ := hown.lookup law9 ht hz (show Rv z = some (.held z, []) from rfl) (keyOf_string_mk Yba.underlying9 hs)
  rw [hrun]
  have e2 := (hD s).2 (.held z)
  unfold ky at e2
  rw [e2] at hv
  unfold Rv at hv
  simp only [Option.some.injEq, Prod.mk.injEq] at hv
  cases hl : Ybulkuvc.look m s <;> rw [hl] at hv <;> simp at hv <;> simp [hv.1]
theorem Mp.len {w : World} {b : Nat} {m : Ents} (h : Mp w b m) {t e : TypeId} (ht : Yba.prog.underlying t = some (.map 9 e)) (ty : TypeId) : (Builtin.len_ #[t] ty #[.map (some b)]).run Yba.prog w = .ok (.int .i64 m.length) w := by
  obtain ⟨D, hown, hsz, _⟩ := h.ex
  rw [hown.len ht ty, hsz]
/-- m[s] = v. -/
theorem Mp.upd {w : World} {b : Nat} {m : Ents} (h : Mp w b m) {t e : TypeId} (ht : Yba.prog.underlying t = some (.map 9 e)) (hn : m.length < maxLen) {s : ByteArray} (hs : s.size ≤ maxLen) (v : Value) :
    ∃ w', (Instr.mapUpdate t (.map (some b)) (.string s) v).run Yba.prog w = .ok () w' ∧ Mp w' b (put m s v) ∧ w.grownBy w' (some b) := by
  obtain ⟨D, hown, hsz, hD⟩ := h.ex
  have hkey := keyOf_string_mk Yba.underlying9 hs
  obtain ⟨w', hrun, hown', hg⟩ := hown.update law9 ht hn hkey (show Rv v = some (.held v, []) from rfl)
  have hsize : Maps.size (D.put (.string s.data.toList) (.held v)) = (put m s v).length := by
    rw [size_put (hown.tidy law9), put_length, hsz]
    have := (hD s).1
    unfold ky at this
    rw [this]
  refine ⟨w', hrun, ⟨put_nodup h.nd s v, ?_, _, by rw [← hsize]; exact own_tight hown', hsize, ?_⟩, hg⟩
  · intro x hx
    rw [put_fst] at hx
    split at hx
    · exact h.sm x hx
    · rcases List.mem_append.1 hx with hx | hx
      · exact h.sm x hx
      · simp at hx; subst hx; exact hs
  · intro x
    rw [look_put]
    by_cases e : x = s
    · subst e
      simp only [if_true]
      exact ⟨has_put_same hown.isMap (law9.key hkey) _, fun z => atKey_put_same hown.isMap (law9.key hkey) _ z⟩
    · rw [if_neg e]
      refine ⟨?_, fun z => ?_⟩
      · have := has_put_other (D := D) (ky_ne e) (.held v)
        unfold ky at this
        unfold ky
        rw [this]
        exact (hD x).1
      · have := atKey_put_other (D := D) (ky_ne e) (.held v) z
        unfold ky at this
        unfold ky
        rw [this]
        exact (hD x).2 z

/-- for k, v := range m, under way: todo is still to come. -/
structure Rg (w : World) (b r : Nat) (m todo : Ents) : Prop where
  nd : (m.map Prod.fst).Nodup
  sm : ∀ s, s ∈ m.map Prod.fst → s.size ≤ maxLen
  ndt : (todo.map Prod.fst).Nodup
  sub : ∀ p, p ∈ todo → p ∈ m
  ex : ∃ (D : DataW Value) (left : Lit → Bool) (cnt : Nat), w.ranges Yba.prog 9 Rv b r m.length D left cnt ∧ (Maps.size D = m.length ∧ ∀ s, Maps.has D (ky s) = (look m s).isSome ∧ ∀ z, D.atKey (ky s) z = (match look m s with | some v => .held v | none => z)) ∧ ∀ s, left (ky s) = (look todo s).isSome

theorem Rg.mp {w : World} {b r : Nat} {m todo : Ents} (h : Rg w b r m todo) : Mp w b m := by
  obtain ⟨D, left, cnt, hr, hD, _⟩ := h.ex
  exact ⟨h.nd, h.sm, D, hr.owns, hD.1, hD.2⟩
theorem Rg.lt {w : World} {b r : Nat} {m todo : Ents} (h : Rg w b r m todo) : r < w.heap.size := by
  obtain ⟨D, left, cnt, hr, _⟩ := h.ex
  exact hr.lt
theorem Rg.obj {w : World} {b r : Nat} {m todo : Ents} (h : Rg w b r m todo) : ∃ p s q c, w.heap[r]? = some (.mapIter p s q c) := by
  obtain ⟨D, left, cnt, ⟨es, clock, since, seen, c0, hb, F, hs, hD, hr, rest⟩, _⟩ := h.ex
  exact ⟨_, _, _, _, hr⟩
theorem Rg.same {w w' : World} {b r : Nat} {m todo : Ents} (h : Rg w b r m todo) (e : w'.heap[b]? = w.heap[b]?) (e' : w'.heap[r]? = w.heap[r]?) : Rg w' b r m todo := by
  obtain ⟨D, left, cnt, ⟨es, clock, since, seen, c0, hb, F, hs, hD, hr, rest⟩, q⟩ := h.ex
  exact ⟨h.nd, h.sm, h.ndt, h.sub, D, left, cnt, ⟨es, clock, since, seen, c0, e.trans hb, F, hs, hD, e'.trans hr, rest⟩, q⟩
theorem rangeLeft_same {w w' : World} {b r : Nat} (e : w'.heap[b]? = w.heap[b]?) (e' : w'.heap[r]? = w.heap[r]?) : w'.rangeLeft b r = w.rangeLeft b r := by
  unfold World.rangeLeft
  rw [e, e']

theorem Mp.range {w : World} {b : Nat} {m : Ents} (h : Mp w b m) {t e : TypeId} (ht : Yba.prog.underlying t = some (.map 9 e)) :
    ∃ w', (Instr.range t (.map (some b))).run Yba.prog w = .ok (.pointer (some ⟨w.heap.size, 0, none⟩)) w' ∧ Rg w' b w.heap.size m m ∧ w.grownBy w' none ∧ w'.heap.size = w.heap.size + 1 := by
  obtain ⟨D, hown, hsz, hD⟩ := h.ex
  obtain ⟨w', hrun, hr, hg, hs⟩ := hown.range law9 ht
  exact ⟨w', hrun, ⟨h.nd, h.sm, h.nd, fun _ hp => hp, D, _, _, hr, ⟨hsz, hD⟩, fun s => (hD s).1⟩, hg, hs⟩

theorem perm_strike {todo : Ents} (hn : (todo.map Prod.fst).Nodup) {s : ByteArray} {v : Value} (h : (s, v) ∈ todo) : todo.Perm ((s, v) :: todo.filter (fun p => !decide (p.1 = s))) := by
  induction todo with
  | nil => simp at h
  | cons p l ih =>
    simp only [List.map_cons, List.nodup_cons] at hn
    rcases List.mem_cons.1 h with e | h
    · subst e
      have : l.filter (fun p => !decide (p.1 = s)) = l := by
        rw [List.filter_eq_self]
        intro a ha
        have : a.1 ≠ s := fun e => hn.1 (List.mem_map.2 ⟨a, ha, e⟩)
        simpa using this
      simp [this]
    · have hne : p.1 ≠ s := fun e => hn.1 (List.mem_map.2 ⟨_, h, e.symm⟩)
      simp only [List.filter_cons, hne, decide_false, Bool.not_false, if_true]
      exact ((ih hn.2 h).cons p).trans (List.Perm.swap _ _ _)

theorem look_filter (todo : Ents) (s x : ByteArray) : look (todo.filter (fun p => !decide (p.1 = s))) x = if x = s then none else look todo x := by
  induction todo with
  | nil => simp [look_nil]
  | cons p l ih =>
    by_cases e : p.1 = s
    · simp only [List.filter_cons, e, decide_true, Bool.not_true]
      rw [if_neg (by simp), ih, look_cons]
      by_cases e2 : x = s
      · simp [e2]
      · have : ¬ s = x := fun e3 => e2 e3.symm
        simp [e2, e, this]
    · simp only [List.filter_cons, e, decide_false, Bool.not_false, if_true]
      rw [look_cons, look_cons, ih]
      by_cases e2 : x = s
      · subst e2; simp [e]
      · simp [e2]

/-- THE STEP. -/
theorem Rg.next {w : World} {b r : Nat} {m todo : Ents} (h : Rg w b r m todo) (ty : TypeId) :
    (todo = [] ∧ (Instr.next (.pointer (some ⟨r, 0, none⟩)) false ty).run Yba.prog w = .ok (.tuple #[.bool false]) w) ∨
    ∃ s v w' todo', (s, v) ∈ todo ∧ todo.Perm ((s, v) :: todo') ∧ s.size ≤ maxLen ∧ (Instr.next (.pointer (some ⟨r, 0, none⟩)) false ty).run Yba.prog w = .ok (.tuple #[.bool true, .string s, v]) w' ∧
      Rg w' b r m todo' ∧ w'.rangeLeft b r < w.rangeLeft b r ∧ w.grownBy w' (some r) ∧ w'.heap.size = w.heap.size ∧ (Instr.entry (.pointer (some ⟨r, 0, none⟩))).run Yba.prog w' = .ok (.tuple #[.string s, v]) w' := by
  obtain ⟨D, left, cnt, hr, hD, hl⟩ := h.ex
  rcases hr.next law9 ty with ⟨_, hno, hrun⟩ | ⟨key, v, kl, y, w', cnt', hkey, hlk, hv, hat, hrun, hr', hlt, hg, hsz, hen⟩
  · refine .inl ⟨?_, hrun⟩
    cases todo with
    | nil => rfl
    | cons p l =>
      have h1 := hl p.1
      rw [hno, look_cons] at h1
      simp at h1
  · obtain ⟨s, rfl, rfl, hs⟩ := string_of_keyOf Yba.underlying9 hkey
    have hls : (look todo s).isSome = true := (hl s).symm.trans hlk
    obtain ⟨u, hu⟩ := Option.isSome_iff_exists.1 hls
    have hmem := mem_of_look hu
    have hlm := look_mem h.nd (h.sub _ hmem)
    have hvu : v = u := by
      have e1 := hat .nil
      have e2 := (hD.2 s).2 .nil
      unfold ky at e2
      rw [e1, hlm] at e2
      unfold Rv at hv
      simp only [Option.some.injEq] at hv
      rw [← hv] at e2
      simpa using e2
    subst hvu
    refine .inr ⟨s, v, w', todo.filter (fun p => !decide (p.1 = s)), hmem, perm_strike h.ndt hmem, hs, hrun, ⟨h.nd, h.sm, ?_, fun p hp => h.sub p (List.mem_filter.1 hp).1, D, _, cnt', hr', hD, ?_⟩, ?_, hg, hsz, hen⟩
    · exact (List.Sublist.map Prod.fst List.filter_sublist).nodup h.ndt
    · intro x
      rw [look_filter, hl x]
      by_cases e : x = s
      · subst e
        have : (ky x).sameKey (Lit.string x.data.toList) = true := WideAt.sameKey_self (law9.key hkey)
        simp [this]
      · have : (ky x).sameKey (Lit.string s.data.toList) = false := sameKey_ne (ky_ne e)
        simp [this, e]
    · rw [hr'.left_eq, hr.left_eq]; exact hlt
end Go.Proofs.Ybulkuvc
