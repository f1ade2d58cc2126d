/- Sink, waitersOf, unblock: their contracts. -/
import Derived.Test.YbulkuocImplicit
import Derived.BigQuiet
import Derived.BigRegion
import Derived.Deep.QuietTactic
namespace Go.Proofs.Ybulkuoc
open Go.RowKit

/-- The waits-for graph at block gb: no part, no node in its order. -/
def Graph (w : World) (gb ob nb n : Nat) : Prop :=
  ∃ c0 c1 c2 c3 c4 c5 c7 c9 d0 d1 d2 d3 d5 cs, Blk w gb #[c0, c1, c2, c3, c4, c5, .pointer (some ⟨ob, 0, none⟩), c7, .slice none 0 0, c9] 101 ∧
    Blk w ob #[d0, d1, d2, d3, .slice (some ⟨nb, 0, none⟩) (n + 2) (n + 2), d5] 122 ∧ Blk w nb cs 3 ∧ ∀ v, v < n → cs[v]? = some (.int .i64 (-1))

theorem in_calls (w : World) (gb ob nb n v : Nat) (h : Graph w gb ob nb n) (hv : v < n) :
    Calls Yba.prog 61 #[.pointer (some ⟨ob, 0, none⟩), .int .i64 v] w fun e w' => e = .returned (.bool false) ∧ w' = w := by
  obtain ⟨c0, c1, c2, c3, c4, c5, c7, c9, d0, d1, d2, d3, d5, cs, h1, h2, h3, h4⟩ := h
  have e1 := h2.cell (i := 4) rfl
  have e2 := h3.cell (h4 v hv)
  have hv' : (v : Int) < (n : Int) + 2 := by omega
  clear h1 h2 h3 h4
  go_enter Yba.func61, Yba.ntmps61
  go_wp2
  go_ret
  exact ⟨rfl, rfl⟩

theorem sink_calls (w : World) (gb ob nb n v : Nat) (h : Graph w gb ob nb n) (hv : v < n) :
    Calls Yba.prog 35 #[.pointer (some ⟨gb, 0, none⟩), .int .i64 v] w fun e w' => e = .returned (.tuple #[]) ∧ w' = w := by
  have h0 := h
  obtain ⟨c0, c1, c2, c3, c4, c5, c7, c9, d0, d1, d2, d3, d5, cs, h1, h2, h3, h4⟩ := h
  have e1 := h1.cell (i := 6) rfl
  have e2 := h1.cell (i := 8) rfl
  clear h1 h2 h3 h4
  go_enter Yba.func35, Yba.ntmps35
  go_wp2_with fail
  refine wp_loop_rounds 1 ?_
  rw [rounds_succ]
  go_wp2_with (first | (go_at_call 61; refine (in_calls w gb ob nb n v h0 hv).mono ?_; rintro e w' ⟨rfl, rfl⟩) | fail)
  go_end0
  exact ⟨rfl, rfl⟩

/-- waitersOf at an upgrader. -/
theorem waitersOf_up (w : World) (R T I U n k x : Nat) (rc tc : Array Value) (hR : Blk w R rc 84) (h1 : rc[1]? = some (.slice (some ⟨I, 0, none⟩) 1 1)) (h3 : rc[3]? = some (.slice (some ⟨T, 0, none⟩) n n)) (h8 : rc[8]? = some (.slice (some ⟨U, 0, none⟩) 2 2))
    (hI : Blk w I #[.int .i64 x] 3) (hT : Blk w T tc 71) (hk : k < n) (hx : x < 2) (t2 : tc[k * 9 + 2]? = some (.int .i64 0)) (t4 : tc[k * 9 + 4]? = some (.bool true)) :
    Calls Yba.prog 34 #[.pointer (some ⟨R, 0, none⟩), .int .i64 k] w fun e w' => e = .returned (.pointer (some ⟨U, x, none⟩)) ∧ ∃ q, w' = w.drewN q := by
  have a1 := hR.cell h1
  have a3 := hR.cell h3
  have a8 := hR.cell h8
  have b0 := hI.cell (i := 0) rfl
  have c2 := hT.cell t2
  have c4 := hT.cell t4
  have hk' : (k : Int) < (n : Int) := by omega
  have hx' : (x : Int) < 2 := by omega
  clear h1 h3 h8 hR hI hT t2 t4
  go_enter Yba.func34, Yba.ntmps34
  go_wp2_with fail
  go_quiet (fail)
  go_wp2_with fail
  go_ret
  exact ⟨rfl, _, rfl⟩

/-- waitersOf at a plain waiter of mode m. -/
theorem waitersOf_plain (w : World) (R T I Wb n k x m : Nat) (rc tc : Array Value) (hR : Blk w R rc 84) (h1 : rc[1]? = some (.slice (some ⟨I, 0, none⟩) 1 1)) (h3 : rc[3]? = some (.slice (some ⟨T, 0, none⟩) n n)) (hm : m < 3) (h5 : rc[5 + m]? = some (.slice (some ⟨Wb, 0, none⟩) 2 2))
    (hI : Blk w I #[.int .i64 x] 3) (hT : Blk w T tc 71) (hk : k < n) (hx : x < 2) (t2 : tc[k * 9 + 2]? = some (.int .i64 0)) (t3 : tc[k * 9 + 3]? = some (.int .u8 m)) (t4 : tc[k * 9 + 4]? = some (.bool false)) :
    Calls Yba.prog 34 #[.pointer (some ⟨R, 0, none⟩), .int .i64 k] w fun e w' => e = .returned (.pointer (some ⟨Wb, x, none⟩)) ∧ ∃ q, w' = w.drewN q := by
  have a1 := hR.cell h1
  have a3 := hR.cell h3
  have a5 := hR.cell h5
  have b0 := hI.cell (i := 0) rfl
  have c2 := hT.cell t2
  have c3 := hT.cell t3
  have c4 := hT.cell t4
  have hk' : (k : Int) < (n : Int) := by omega
  have hx' : (x : Int) < 2 := by omega
  have hm' : (m : Int) < 3 := by omega
  clear h1 h3 h5 hR hI hT t2 t3 t4
  go_enter Yba.func34, Yba.ntmps34
  go_wp2_with fail
  go_quiet (fail)
  go_wp2_with fail
  go_ret
  exact ⟨rfl, _, rfl⟩


theorem Graph.set {w : World} {gb ob nb n : Nat} (h : Graph w gb ob nb n) {a : Addr} (h1 : gb ≠ a.block) (h2 : ob ≠ a.block) (h3 : nb ≠ a.block) (v : Value) : Graph (w.setCell a v) gb ob nb n := by
  obtain ⟨c0, c1, c2, c3, c4, c5, c7, c9, d0, d1, d2, d3, d5, cs, q1, q2, q3, q4⟩ := h
  exact ⟨c0, c1, c2, c3, c4, c5, c7, c9, d0, d1, d2, d3, d5, cs, q1.other h1 v, q2.other h2 v, q3.other h3 v, q4⟩
theorem Graph.drewN {w : World} {gb ob nb n : Nat} (h : Graph w gb ob nb n) (q : Nat) : Graph (w.drewN q) gb ob nb n := h
theorem Graph.drew {w : World} {gb ob nb n : Nat} (h : Graph w gb ob nb n) : Graph w.drew gb ob nb n := h

/-- The world behind unblock, but for the count of draws. -/
def unblocked (w : World) (L T D n k x p last : Nat) : World :=
  (((w.setCell ⟨L, p, none⟩ (.int .i64 last)).setCell ⟨T, last * 9 + 7, none⟩ (.int .i64 p)).setCell ⟨D, x, none⟩ (.slice (some ⟨L, 0, none⟩) (n - 1) n)).setCell ⟨T, k * 9 + 1, none⟩ (.int .u8 0)

set_option maxRecDepth 10000 in
set_option maxHeartbeats 1000000 in
theorem unblock_calls (w : World) (R T D L n k x p last gb ob nb : Nat) (rc tc dc lc : Array Value) (hR : Blk w R rc 84) (h3 : rc[3]? = some (.slice (some ⟨T, 0, none⟩) n n)) (h15 : rc[15]? = some (.pointer (some ⟨gb, 0, none⟩)))
    (hT : Blk w T tc 71) (hD : Blk w D dc 26) (hL : Blk w L lc 3) (hn : n ≤ 1025) (hk : k < n) (hp : p < n) (hl : last < n) (hts : tc.size = n * 9) (hls : lc.size = n)
    (t7 : tc[k * 9 + 7]? = some (.int .i64 p)) (d0 : dc[x]? = some (.slice (some ⟨L, 0, none⟩) n n)) (l0 : lc[n - 1]? = some (.int .i64 last)) (hG : Graph w gb ob nb n) (hnb : nb ≠ L)
    (hwo : Calls Yba.prog 34 #[.pointer (some ⟨R, 0, none⟩), .int .i64 k] w fun e w' => e = .returned (.pointer (some ⟨D, x, none⟩)) ∧ ∃ q, w' = w.drewN q) :
    Calls Yba.prog 19 #[.pointer (some ⟨R, 0, none⟩), .int .i64 k] w fun e w' => e = .returned (.tuple #[]) ∧ ∃ q, w' = (unblocked w L T D n k x p last).drewN q := by
  have a3 := hR.cell h3
  have a15 := hR.cell h15
  have b7 := hT.cell t7
  have e0 := hD.cell d0
  have f0 : w.cell? ⟨L, n - 1, none⟩ = some (.int .i64 last) := hL.cell l0
  have f1 : w.cell? ⟨L, p, none⟩ = some lc[p] := hL.cell (by simp)
  have b8 : w.cell? ⟨T, last * 9 + 7, none⟩ = some (tc[last * 9 + 7]'(by omega)) := hT.cell (by simp)
  have b1 : w.cell? ⟨T, k * 9 + 1, none⟩ = some (tc[k * 9 + 1]'(by omega)) := hT.cell (by simp)
  have z1 := hL.free p
  have z2 := hT.free (last * 9 + 7)
  have z3 := hD.free x
  have z4 := hT.free (k * 9 + 1)
  have n1 : R ≠ T := hR.ne hT (by decide)
  have n2 : R ≠ D := hR.ne hD (by decide)
  have n3 : R ≠ L := hR.ne hL (by decide)
  have n4 : T ≠ D := hT.ne hD (by decide)
  have n5 : T ≠ L := hT.ne hL (by decide)
  have n6 : D ≠ L := hD.ne hL (by decide)
  have hG4 : Graph (unblocked w L T D n k x p last) gb ob nb n := by
    obtain ⟨c0, c1, c2, c3, c4, c5, c7, c9, d0, d1, d2, d3, d5, cs, q1, q2, q3, q4⟩ := hG
    have m1 := q1.ne hL (by decide); have m2 := q1.ne hT (by decide); have m3 := q1.ne hD (by decide)
    have m4 := q2.ne hL (by decide); have m5 := q2.ne hT (by decide); have m6 := q2.ne hD (by decide)
    have m8 := q3.ne hT (by decide); have m9 := q3.ne hD (by decide)
    exact ⟨c0, c1, c2, c3, c4, c5, c7, c9, d0, d1, d2, d3, d5, cs, (((q1.other m1 _).other m2 _).other m3 _).other m2 _, (((q2.other m4 _).other m5 _).other m6 _).other m5 _, (((q3.other hnb _).other m8 _).other m9 _).other m8 _, q4⟩
  have HW : Hid (Calls Yba.prog 34 #[.pointer (some ⟨R, 0, none⟩), .int .i64 k] w fun e w' => e = .returned (.pointer (some ⟨D, x, none⟩)) ∧ ∃ q, w' = w.drewN q) := hwo
  have i1 : (k : Int) < (n : Int) := by omega
  have i2 : (p : Int) < (n : Int) := by omega
  have i3 : (last : Int) < (n : Int) := by omega
  have i4 : (1 : Int) ≤ (n : Int) := by omega
  have HG : Hid (Graph (unblocked w L T D n k x p last) gb ob nb n) := hG4
  clear hwo hR hT hD hL h3 h15 t7 d0 l0 hG hG4 hnb
  go_enter Yba.func19, Yba.ntmps19
  go_wp2_with fail
  refine HW.out.mono ?_
  rintro e w1 ⟨rfl, q, hw1⟩
  subst hw1
  go_wp2_with fail
  go_quiet (fail)
  go_wp2_with fail
  go_region
  go_wp2_with fail
  go_region
  go_wp2_with fail
  go_region
  go_wp2_with fail
  refine (sink_calls _ gb ob nb n k ?_ hk).mono ?_
  · exact HG.out
  rintro e w2 ⟨rfl, hw2⟩
  have hw3 : ∃ m, w2 = (unblocked w L T D n k x p last).drewN m := ⟨q + nq + 1 + 2, hw2⟩
  clear hw2
  go_wp2_with fail
  go_end0
  exact ⟨rfl, hw3⟩

end Go.Proofs.Ybulkuoc
