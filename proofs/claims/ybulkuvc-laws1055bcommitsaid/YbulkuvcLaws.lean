/- The maps' laws at the operations, for the walk. -/
import Derived.Test.YbulkuvcNew
import Derived.Maps.OwnOps
import Derived.Maps.RangeWalk
import Derived.Deep.RegionLaw
import Derived.BigRegion
namespace Go.Proofs.Ybulkuvc
open Go.RowKit Go.Maps Go.WideMaps

section
variable {ops : Array Oper} {rest : List Oper} {o : Oper} {a : Act} {Q : Exit → Act → World → Prop} {K : Act → World → Prop} {E : Prop}

theorem exec_look {w : World} {mo xo : Operand} {t : TypeId} (hop : o.op = Op.lookup t mo xo false) {b : Nat} {m : Ents} (h : Mp w b m) {e : TypeId} (ht : Yba.prog.underlying t = some (.map 9 e)) {z : Value} (hz : (zeroValue e).run Yba.prog w = .ok z w) {s : ByteArray} (hm : a.eval mo = .map (some b)) (hx : a.eval xo = .string s) (hs : s.size ≤ maxLen) :
    (execOp a.eval o).run Yba.prog w = .ok (.value ((look m s).getD z)) w := by
  simp [execOp, hop, hm, hx, h.look ht hz hs, Result.andThen]
theorem exec_lookok {w : World} {mo xo : Operand} {t : TypeId} (hop : o.op = Op.lookup t mo xo true) {b : Nat} {m : Ents} (h : Mp w b m) {e : TypeId} (ht : Yba.prog.underlying t = some (.map 9 e)) {z : Value} (hz : (zeroValue e).run Yba.prog w = .ok z w) {s : ByteArray} (hm : a.eval mo = .map (some b)) (hx : a.eval xo = .string s) (hs : s.size ≤ maxLen) :
    (execOp a.eval o).run Yba.prog w = .ok (.value (.tuple #[(look m s).getD z, .bool (look m s).isSome])) w := by
  simp [execOp, hop, hm, hx, h.look_ok ht hz hs, Result.andThen]

theorem wpList_look (w : World) (hg : o.guard = none) (mo xo : Operand) (t : TypeId) (hop : o.op = Op.lookup t mo xo false) {b : Nat} {m : Ents} (h : Mp w b m) {e : TypeId} (ht : Yba.prog.underlying t = some (.map 9 e)) {z : Value} (hz : (zeroValue e).run Yba.prog w = .ok z w) (s : ByteArray) (hm : a.eval mo = .map (some b)) (hx : a.eval xo = .string s) (hs : s.size ≤ maxLen) {u : Value} (hu : (look m s).getD z = u)
    (hK : wpList Yba.prog ops Q rest (a.put o.dst u) w) : wpList Yba.prog ops Q (o :: rest) a w := by
  refine wpList_plain hg fun K' hK' => ?_
  unfold Oper.wp
  rw [exec_look hop h ht hz hm hx hs, hu]
  exact hK' _ _ hK
theorem wpList_lookok (w : World) (hg : o.guard = none) (mo xo : Operand) (t : TypeId) (hop : o.op = Op.lookup t mo xo true) {b : Nat} {m : Ents} (h : Mp w b m) {e : TypeId} (ht : Yba.prog.underlying t = some (.map 9 e)) {z : Value} (hz : (zeroValue e).run Yba.prog w = .ok z w) (s : ByteArray) (hm : a.eval mo = .map (some b)) (hx : a.eval xo = .string s) (hs : s.size ≤ maxLen) {u : Value} {ok : Bool} (hu : (look m s).getD z = u) (hok : (look m s).isSome = ok)
    (hK : wpList Yba.prog ops Q rest (a.put o.dst (.tuple #[u, .bool ok])) w) : wpList Yba.prog ops Q (o :: rest) a w := by
  refine wpList_plain hg fun K' hK' => ?_
  unfold Oper.wp
  rw [exec_lookok hop h ht hz hm hx hs, hu, hok]
  exact hK' _ _ hK
theorem wpList_upd (w : World) (hg : o.guard = none) (mo xo vo : Operand) (t : TypeId) (hop : o.op = Op.mapUpdate t mo xo vo) {b : Nat} {m : Ents} (h : Mp w b m) {e : TypeId} (ht : Yba.prog.underlying t = some (.map 9 e)) (hn : m.length < maxLen) (s : ByteArray) (v : Value) (hm : a.eval mo = .map (some b)) (hx : a.eval xo = .string s) (hv : a.eval vo = v) (hs : s.size ≤ maxLen)
    (hK : ∀ w', Mp w' b (put m s v) → w.grownBy w' (some b) → wpList Yba.prog ops Q rest (a.put o.dst undef) w') : wpList Yba.prog ops Q (o :: rest) a w := by
  refine wpList_plain hg fun K' hK' => ?_
  obtain ⟨w', hrun, r1, r2⟩ := h.upd ht hn hs v
  unfold Oper.wp
  simp [execOp, hop, hm, hx, hv, hrun, Result.andThen]
  exact hK' _ _ (hK w' r1 r2)
theorem step_upd (w : World) (hg : o.guard = none) (mo xo vo : Operand) (t : TypeId) (hop : o.op = Op.mapUpdate t mo xo vo) {b : Nat} {m : Ents} (h : Mp w b m) {e : TypeId} (ht : Yba.prog.underlying t = some (.map 9 e)) (hn : m.length < maxLen) (s : ByteArray) (v : Value) (hm : a.eval mo = .map (some b)) (hx : a.eval xo = .string s) (hv : a.eval vo = v) (hs : s.size ≤ maxLen)
    (hK : ∀ w', Mp w' b (put m s v) → w.grownBy w' (some b) → K (a.put o.dst undef) w') : if Region.wanted o (yielded ops a.tmps) = true then Oper.wp Yba.prog o a w K Q else E := by
  have hw : Region.wanted o (yielded ops a.tmps) = true := by simp [Region.wanted, hg]
  rw [if_pos hw]
  obtain ⟨w', hrun, r1, r2⟩ := h.upd ht hn hs v
  unfold Oper.wp
  simp [execOp, hop, hm, hx, hv, hrun, Result.andThen]
  exact hK w' r1 r2
theorem step_look (w : World) (hg : o.guard = none) (mo xo : Operand) (t : TypeId) (hop : o.op = Op.lookup t mo xo false) {b : Nat} {m : Ents} (h : Mp w b m) {e : TypeId} (ht : Yba.prog.underlying t = some (.map 9 e)) {z : Value} (hz : (zeroValue e).run Yba.prog w = .ok z w) (s : ByteArray) (hm : a.eval mo = .map (some b)) (hx : a.eval xo = .string s) (hs : s.size ≤ maxLen) {u : Value} (hu : (look m s).getD z = u)
    (hK : K (a.put o.dst u) w) : if Region.wanted o (yielded ops a.tmps) = true then Oper.wp Yba.prog o a w K Q else E := by
  have hw : Region.wanted o (yielded ops a.tmps) = true := by simp [Region.wanted, hg]
  rw [if_pos hw]
  unfold Oper.wp
  rw [exec_look hop h ht hz hm hx hs, hu]
  exact hK
theorem step_lookok (w : World) (hg : o.guard = none) (mo xo : Operand) (t : TypeId) (hop : o.op = Op.lookup t mo xo true) {b : Nat} {m : Ents} (h : Mp w b m) {e : TypeId} (ht : Yba.prog.underlying t = some (.map 9 e)) {z : Value} (hz : (zeroValue e).run Yba.prog w = .ok z w) (s : ByteArray) (hm : a.eval mo = .map (some b)) (hx : a.eval xo = .string s) (hs : s.size ≤ maxLen) {u : Value} {ok : Bool} (hu : (look m s).getD z = u) (hok : (look m s).isSome = ok)
    (hK : K (a.put o.dst (.tuple #[u, .bool ok])) w) : if Region.wanted o (yielded ops a.tmps) = true then Oper.wp Yba.prog o a w K Q else E := by
  have hw : Region.wanted o (yielded ops a.tmps) = true := by simp [Region.wanted, hg]
  rw [if_pos hw]
  unfold Oper.wp
  rw [exec_lookok hop h ht hz hm hx hs, hu, hok]
  exact hK
theorem wpList_mlen (w : World) (hg : o.guard = none) (mo : Operand) (t : TypeId) (hop : o.op = Op.call { callee := Callee.builtin Builtin.len, args := #[mo], argTypes := #[t] }) {b : Nat} {m : Ents} (h : Mp w b m) {e : TypeId} (ht : Yba.prog.underlying t = some (.map 9 e)) (hm : a.eval mo = .map (some b))
    (hK : wpList Yba.prog ops Q rest (a.put o.dst (.int .i64 m.length)) w) : wpList Yba.prog ops Q (o :: rest) a w := by
  obtain ⟨D, hown, hsz, _⟩ := h.ex
  rw [← hsz] at hK
  exact wpList_len_own w hg mo t hop 9 e ht Rv b m.length D hm hown hK
theorem wpList_mrange (w : World) (hg : o.guard = none) (mo : Operand) (t : TypeId) (hop : o.op = Op.range t mo) {b : Nat} {m : Ents} (h : Mp w b m) {e : TypeId} (ht : Yba.prog.underlying t = some (.map 9 e)) (hm : a.eval mo = .map (some b))
    (hK : ∀ w', Rg w' b w.heap.size m m → w.grownBy w' none → w'.heap.size = w.heap.size + 1 → wpList Yba.prog ops Q rest (a.put o.dst (.pointer (some ⟨w.heap.size, 0, none⟩))) w') : wpList Yba.prog ops Q (o :: rest) a w := by
  refine wpList_plain hg fun K' hK' => ?_
  obtain ⟨w', hrun, r1, r2, r3⟩ := h.range ht
  unfold Oper.wp
  simp [execOp, hop, hm, hrun, Result.andThen]
  exact hK' _ _ (hK w' r1 r2 r3)
theorem wpList_mnext (w : World) (hg : o.guard = none) (it : Operand) (hop : o.op = Op.next it false) {b r : Nat} {m todo : Ents} (h : Rg w b r m todo) (hit : a.eval it = .pointer (some ⟨r, 0, none⟩))
    (hDone : todo = [] → wpList Yba.prog ops Q rest (a.put o.dst (.tuple #[.bool false])) w)
    (hMore : ∀ (s : ByteArray) (v : Value) (w' : World) (todo' : Ents), (s, v) ∈ todo → todo.Perm ((s, v) :: todo') → s.size ≤ maxLen → Rg w' b r m todo' → w'.rangeLeft b r < w.rangeLeft b r → w.grownBy w' (some r) → w'.heap.size = w.heap.size → (Instr.entry (.pointer (some ⟨r, 0, none⟩))).run Yba.prog w' = .ok (.tuple #[.string s, v]) w' → wpList Yba.prog ops Q rest (a.put o.dst (.tuple #[.bool true, .string s, v])) w') :
    wpList Yba.prog ops Q (o :: rest) a w := by
  refine wpList_plain hg fun K' hK' => ?_
  unfold Oper.wp
  rcases h.next o.type with ⟨h0, hrun⟩ | ⟨s, v, w', todo', h1, h2, h3, hrun, h4, h5, h6, h7, h8⟩
  · simp [execOp, hop, hit, hrun, Result.andThen]
    exact hK' _ _ (hDone h0)
  · simp [execOp, hop, hit, hrun, Result.andThen]
    exact hK' _ _ (hMore s v w' todo' h1 h2 h3 h4 h5 h6 h7 h8)
end
end Go.Proofs.Ybulkuvc
