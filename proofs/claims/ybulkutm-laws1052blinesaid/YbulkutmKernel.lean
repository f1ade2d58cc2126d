/- (*Config).kernelLoad: its contract over what the two lookups give. -/
import Derived.Test.YbulkutmRows
import Derived.WalkKit
import Derived.ProofKit
import Derived.Maps.OwnSet
import Derived.Maps.OwnOps
import Derived.Maps.StringElems
namespace Go.Proofs.Ybulkutm
open Go.RowKit Go.Maps Go.WideMaps

theorem zero9 (w : World) : (zeroValue 9).run Yba.prog w = .ok (.string ByteArray.empty) w := by kernel_rfl

/-- What kernelLoad gives. -/
def line (k o : ByteArray) : ByteArray := if o.toList == [] then ⟨#[108, 111, 97, 100, 32, 47, 98, 111, 111, 116, 47]⟩ ++ k ++ ⟨#[47, 107, 101, 114, 110, 101, 108]⟩ else (⟨#[108, 111, 97, 100, 32, 47, 98, 111, 111, 116, 47]⟩ ++ k ++ ⟨#[47, 107, 101, 114, 110, 101, 108]⟩) ++ (⟨#[32]⟩ ++ o)

theorem sz1 : (ByteArray.mk #[108, 111, 97, 100, 32, 47, 98, 111, 111, 116, 47]).size = 11 := rfl
theorem sz2 : (ByteArray.mk #[47, 107, 101, 114, 110, 101, 108]).size = 7 := rfl
theorem sz3 : (ByteArray.mk #[32]).size = 1 := rfl
theorem sz4 : (ByteArray.mk #[107, 101, 114, 110, 101, 108]).size = 6 := rfl

theorem kernel_walk (b : Nat) (w : World) (mv : Value) (s1 s2 : ByteArray) (ok : Bool) (hc : w.cell? ⟨b, 0, none⟩ = some mv)
    (h1 : (Instr.lookup 24 mv (.string ⟨#[107, 101, 114, 110, 101, 108]⟩) true).run Yba.prog w = .ok (.tuple #[.string s1, .bool ok]) w)
    (h2 : (Instr.lookup 24 mv (.string ⟨#[107, 101, 114, 110, 101, 108, 95, 111, 112, 116, 105, 111, 110, 115]⟩) false).run Yba.prog w = .ok (.string s2) w)
    (z1 : s1.size ≤ 140737488351232) (z2 : s2.size ≤ 140737488351232) :
    Calls Yba.prog 4 #[.pointer (some ⟨b, 0, none⟩)] w fun e w' => e = .returned (.string (line (if ok then s1 else ⟨#[107, 101, 114, 110, 101, 108]⟩) s2)) ∧ w' = w := by
  have e1 := sz1
  have e2 := sz2
  have e3 := sz3
  have e4 := sz4
  have ea (x y : ByteArray) : (x ++ y).size = x.size + y.size := ByteArray.size_append
  cases ok <;> cases hs : (s2.toList == []) 
  all_goals
    go_enter Yba.func4, Yba.ntmps4
    go_wp2
    all_goals try (simp [ea, e1, e2, e3, e4] at *; omega)
    go_ret
    exact ⟨by simp [line, hs], rfl⟩

theorem law9 : Keyed Yba.prog 9 := string_keyed Yba.underlying9
def kK : ByteArray := ⟨#[107, 101, 114, 110, 101, 108]⟩
def kO : ByteArray := ⟨#[107, 101, 114, 110, 101, 108, 95, 111, 112, 116, 105, 111, 110, 115]⟩

theorem key_ne {x y : ByteArray} (h : x ≠ y) : Lit.string x.data.toList ≠ Lit.string y.data.toList := by
  intro e
  injection e with e
  apply h
  exact ByteArray.ext (Array.ext' e)

/-- The map at block m says: kernel is k (has: hk), kernel_options is o. -/
structure Says (w : World) (m n : Nat) (ok : Bool) (k o : ByteArray) : Prop where
  own : ∃ (D : DataW Unit), w.ownsMap Yba.prog 9 (plainElem Yba.prog 9) m n D ∧ Maps.has D (.string kK.data.toList) = ok ∧ (D.atKey (.string kK.data.toList) (.lit (.string []))) = .lit (.string k.data.toList) ∧ (D.atKey (.string kO.data.toList) (.lit (.string []))) = .lit (.string o.data.toList)

theorem Says.calls {w : World} {m b n : Nat} {ok : Bool} {k o : ByteArray} (h : Says w m n ok k o) (hc : w.cell? ⟨b, 0, none⟩ = some (.map (some m))) (z1 : k.size ≤ 140737488351232) (z2 : o.size ≤ 140737488351232) :
    Calls Yba.prog 4 #[.pointer (some ⟨b, 0, none⟩)] w fun e w' => e = .returned (.string (line (if ok then k else kK) o)) ∧ w' = w := by
  obtain ⟨D, hown, hh, h1, h2⟩ := h.own
  obtain ⟨v1, p1, r1, e1⟩ := hown.look_ok law9 Yba.underlying24 (zero9 w) (plainElem_string Yba.underlying9 (s := ByteArray.empty) (by decide)) (keyOf_string_mk Yba.underlying9 (s := kK) (by decide))
  obtain ⟨v2, p2, r2, e2⟩ := hown.lookup law9 Yba.underlying24 (zero9 w) (plainElem_string Yba.underlying9 (s := ByteArray.empty) (by decide)) (keyOf_string_mk Yba.underlying9 (s := kO) (by decide))
  obtain ⟨s1, rfl, e1', _⟩ := plainElem_string_inv Yba.underlying9 e1
  obtain ⟨s2, rfl, e2', _⟩ := plainElem_string_inv Yba.underlying9 e2
  have q1 : s1 = k := by
    have := (congrArg Prod.fst e1').symm.trans h1
    injection this with this
    injection this with this
    exact ByteArray.ext (Array.ext' this)
  have q2 : s2 = o := by
    have := (congrArg Prod.fst e2').symm.trans h2
    injection this with this
    injection this with this
    exact ByteArray.ext (Array.ext' this)
  subst q1 q2
  rw [hh] at r1
  exact kernel_walk b w _ s1 s2 ok hc r1 r2 z1 z2

theorem Says.upd {w : World} {m n : Nat} {ok : Bool} {k o : ByteArray} (h : Says w m n ok k o) (hn : n < maxLen) (x v : ByteArray) (hx : x.size ≤ maxLen) (hv : v.size ≤ maxLen) :
    ∃ w', (Instr.mapUpdate 24 (.map (some m)) (.string x) (.string v)).run Yba.prog w = .ok () w' ∧ Says w' m (n + 1) (if x = kK then true else ok) (if x = kK then v else k) (if x = kO then v else o) ∧ w.grownBy w' (some m) := by
  obtain ⟨D, hown, hh, h1, h2⟩ := h.own
  have hkey := keyOf_string_mk Yba.underlying9 hx
  obtain ⟨w', r, hown', hg⟩ := hown.update law9 Yba.underlying24 hn hkey (plainElem_string Yba.underlying9 hv)
  refine ⟨w', r, ⟨_, hown', ?_, ?_, ?_⟩, hg⟩
  · by_cases e : x = kK
    · subst e; simp [has_put_same hown.isMap (law9.key hkey)]
    · rw [has_put_other (key_ne (Ne.symm e)), if_neg e, hh]
  · by_cases e : x = kK
    · subst e; simp [atKey_put_same hown.isMap (law9.key hkey)]
    · rw [atKey_put_other (key_ne (Ne.symm e)), if_neg e, h1]
  · by_cases e : x = kO
    · subst e; simp [atKey_put_same hown.isMap (law9.key hkey)]
    · rw [atKey_put_other (key_ne (Ne.symm e)), if_neg e, h2]

theorem Says.made (w : World) : Says (w.alloc (.map #[] 0)) w.heap.size 0 false ByteArray.empty ByteArray.empty :=
  ⟨_, World.ownsMap_made w _ 9 _, rfl, rfl, rfl⟩

theorem Says.store {w : World} {m n : Nat} {ok : Bool} {k o : ByteArray} (h : Says w m n ok k o) {a : Addr} (ha : m ≠ a.block) (u : Value) : Says (w.setCell a u) m n ok k o := by
  obtain ⟨D, hown, r⟩ := h.own
  exact ⟨D, hown.setCell ha u, r⟩

theorem wpList_says (w : World) {ops : Array Oper} {rest : List Oper} {op : Oper} {a : Act} {Q : Exit → Act → World → Prop}
    (hg : op.guard = none) (mo xo vo : Operand) (hop : op.op = Op.mapUpdate 24 mo xo vo) {m n : Nat} {ok : Bool} {k o : ByteArray} (h : Says w m n ok k o) (hn : n < maxLen) (x v : ByteArray)
    (hm : a.eval mo = .map (some m)) (hxe : a.eval xo = .string x) (hve : a.eval vo = .string v) (hx : x.size ≤ maxLen) (hv : v.size ≤ maxLen)
    (hK : ∀ w', Says w' m (n + 1) (if x = kK then true else ok) (if x = kK then v else k) (if x = kO then v else o) → w.grownBy w' (some m) → wpList Yba.prog ops Q rest (a.put op.dst undef) w') :
    wpList Yba.prog ops Q (op :: rest) a w := by
  refine wpList_plain hg fun K' hK' => ?_
  obtain ⟨w', hrun, r1, r2⟩ := h.upd hn x v hx hv
  unfold Oper.wp
  simp [execOp, hop, hm, hxe, hve, hrun, Result.andThen]
  exact hK' _ _ (hK w' r1 r2)
end Go.Proofs.Ybulkutm
