/- The walk of LawS1042BAgain. -/
import Derived.Test.YbulkuocFirstWalk
namespace Go.Proofs.Ybulkuoc
open Go.RowKit Go.Maps Go.WideMaps

theorem itemNumber_any (base mb bm : Nat) (v : Value) (ns : List ByteArray) (x : ByteArray) (w : World) (hM : Mk w base mb bm v ns) (hx : x.size ≤ maxLen) (hn : ns.length ≤ 1024) (hB : base ≤ w.heap.size) :
    Calls Yba.prog 16 #[.pointer (some ⟨mb, 0, none⟩), .string x] w fun e w' => e = .returned (.int .i64 (pos x ns)) ∧ ∃ v', Mk w' base mb bm v' (ins x ns) ∧ Below base w w' := by
  by_cases hin : pos x ns < ns.length
  · refine (itemNumber_in base mb bm v ns x w hM hx hin).mono ?_
    rintro e w' ⟨rfl, rfl⟩
    exact ⟨rfl, v, by rw [ins_of_in hin]; exact hM, Below.refl _ _⟩
  · refine (itemNumber_out base mb bm v ns x w hM hx hin hn).mono ?_
    rintro e w' ⟨rfl, v', hM', _, hF⟩
    refine ⟨rfl, v', by rw [ins_of_out hin]; exact hM', hF.below hB ?_⟩
    rintro q (rfl | rfl | hq)
    · exact hM.bmb
    · exact hM.bbm
    · exact (hM.names.lt q hq).1

structure RelA (w wr : World) (xs : Nat → ByteArray) (len mb bm : Nat) (i : Value) (k : Nat) (v : Value) (ns : List ByteArray) : Prop where
  kl : k ≤ len
  ie : i = .int .i64 k
  nk : ns.length ≤ k
  mker : Mk wr w.heap.size mb bm v ns
  inn : ∀ j, j < k → pos (xs j) ns < ns.length
  below : Below w.heap.size w wr

set_option maxRecDepth 10000 in
set_option maxHeartbeats 400000 in
theorem again_walk (a0 : Option Addr) (len cap : Nat) (p : Nat) (xs : Nat → ByteArray) (w : World) (hlen : len ≤ 1024) (hp : p < 65536) (hc : ∀ j, j < len → ∃ b off, a0 = some ⟨b, off, none⟩ ∧ b < w.heap.size ∧ w.cell? ⟨b, off + j, none⟩ = some (.string (xs j)) ∧ (xs j).size ≤ maxLen) :
    Calls Yba.prog 6 #[.slice a0 len cap, .int .u16 p] w fun e w' => e = .returned (.bool true) ∧ Below w.heap.size w w' := by
  have HX : Hid (∀ j, j < len → ∃ b off, a0 = some ⟨b, off, none⟩ ∧ b < w.heap.size ∧ w.cell? ⟨b, off + j, none⟩ = some (.string (xs j)) ∧ (xs j).size ≤ maxLen) := hc
  clear hc
  go_enter Yba.func6, Yba.ntmps6
  go_wp2_with fail
  refine (newMaker_calls len w (by omega)).mono ?_
  rintro e w1 ⟨mb, m0, bm, m7, a5, l5, c5, a6, l6, c6, rfl, hbel, hmb, hbm, hmap, hcells⟩
  go_wp2_with fail
  go_loopw [19] (fun i wr => ∃ k v ns, RelA w wr xs len mb bm i k v ns) (fun i _ => len - (intOf i).toNat)
  case atStart =>
    exact ⟨0, .slice none 0 0, [], ⟨Nat.zero_le _, rfl, Nat.le_refl _, ⟨hmb, hbm, ⟨_, _, _, _, _, _, _, _, _, hcells⟩, World.ownsRow_nil _ _ _ _, .map [], ⟨#[], 0, hmap, ⟨by simp, MapKept.stamped_empty 0, by simp⟩, Nat.le_refl _, rfl⟩, mapIs_nil⟩, fun j hj => absurd hj (Nat.not_lt_zero _), hbel⟩⟩
  case round =>
    clear hmap hcells
    obtain ⟨k, v, ns, ⟨hk, rfl, hnk, hM, hinn, hbl⟩⟩ := hrel
    by_cases hlt : k < len
    · obtain ⟨b, off, rfl, hbw, hcw, hxs⟩ := HX.out k hlt
      have hck : wr.cell? ⟨b, off + k, none⟩ = some (.string (xs k)) := (hbl.cell (by exact hbw)).trans hcw
      clear hcw
      have HI : Hid (∀ j, j < k → pos (xs j) ns < ns.length) := hinn
      clear hinn
      generalize hy : xs k = y at hck hxs
      have HY : Hid (xs k = y) := hy
      clear hy
      go_wp2_with fail
      refine (itemNumber_any w.heap.size mb bm v ns y wr hM hxs (by omega) hbl.size).mono ?_
      rintro e w2 ⟨rfl, v', hM2, hbl2⟩
      go_wp2_with fail
      go_roundw
      case rel =>
        refine ⟨k + 1, v', ins y ns, by omega, by go_num, by have := ins_length y ns; omega, hM2, ?_, hbl.trans hbl2⟩
        intro j hj
        by_cases hjk : j < k
        · exact pos_ins_of_in (HI.out j hjk)
        · have : j = k := by omega
          subst this
          rw [HY.out, ins_pos]; exact pos_lt_ins y ns
      case measure => simp [intOf]; omega
    · have hkl : k = len := by omega
      subst hkl
      have HI : Hid (∀ j, j < k → pos (xs j) ns < ns.length) := hinn
      clear hinn
      obtain ⟨va, vc, hv⟩ := row_shape hM.names
      subst hv
      have hM0 := hM
      obtain ⟨_, _, ⟨c0, c1, c2, c5', c6', c7, c8, c9, c10, hb⟩, hrow, D, hown, hD⟩ := hM0
      have hc3 : wr.cell? ⟨mb, 3, none⟩ = some (.map (some bm)) := by rw [cell_of_row wr mb 3 _ 62 (0, 0) hb]; rfl
      have hc4 : wr.cell? ⟨mb, 4, none⟩ = some (.slice va ns.length vc) := by rw [cell_of_row wr mb 4 _ 62 (0, 0) hb]; rfl
      have hsz : Maps.size D = ns.length := hD.size
      have hln : ∀ ty, (Builtin.len_ #[59] ty #[.map (some bm)]).run Yba.prog wr = .ok (.int .i64 ns.length) wr := fun ty => by rw [← hsz]; exact hown.len Yba.underlying59 ty
      clear hsz hD hown hb
      by_cases hk0 : k = 0
      · subst hk0
        have hns : ns = [] := List.length_eq_zero_iff.1 (by omega)
        subst hns
        go_wp2_with fail
        go_ret
        exact ⟨rfl, hbl⟩
      · have hk1 : (0 : Int) < k := by omega
        obtain ⟨b, off, rfl, hbw, hcw, hxs⟩ := HX.out (p % k) (Nat.mod_lt _ (by omega))
        have hin := HI.out (p % k) (Nat.mod_lt _ (by omega))
        have hck : wr.cell? ⟨b, off + p % k, none⟩ = some (.string (xs (p % k))) := (hbl.cell (by exact hbw)).trans hcw
        generalize xs (p % k) = x at hck hxs hin
        clear hcw
        have hm0 : 0 ≤ (p : Int) % (k : Int) := Int.emod_nonneg _ (by omega)
        have hm1 : (p : Int) % (k : Int) < k := Int.emod_lt_of_pos _ hk1
        have hpl : (pos x ns : Int) < ns.length := by omega
        have hpc : ∃ gv, va = some ⟨gv, 0, none⟩ ∧ wr.cell? ⟨gv, pos x ns, none⟩ = some (.string x) := by
          obtain ⟨gv, cv, e2, _, _⟩ := hrow.form (by omega)
          simp at e2
          obtain ⟨rfl, rfl⟩ := e2
          refine ⟨gv, rfl, ?_⟩
          have h := hrow.cells (g := gv) rfl (pos x ns) (.string x) (by simp [pos_get x ns hin])
          rw [show ((⟨gv, 0, none⟩ : Addr).add (pos x ns)) = ⟨gv, pos x ns, none⟩ from by unfold Addr.add; split <;> simp_all] at h
          exact h
        obtain ⟨gv, rfl, hcv⟩ := hpc
        have HR : Hid (wr.ownsRow w.heap.size 9 1 (.slice (some ⟨gv, 0, none⟩) ns.length vc) ns.length (ns.map Value.string)) := hrow
        have HM : Hid (Mk wr w.heap.size mb bm (.slice (some ⟨gv, 0, none⟩) ns.length vc) ns) := hM
        clear hrow hM
        have hidx : idx x ns = (pos x ns : Int) := by simp [idx, hin]
        go_wp2_with fail
        refine (itemNumber_in w.heap.size mb bm _ ns x wr HM.out hxs hin).mono ?_
        rintro e w2 ⟨rfl, rfl⟩
        go_wp2_with fail
        refine (bindex_calls w.heap.size _ ns x w2 HR.out (by omega)).mono ?_
        rintro e w3 ⟨rfl, rfl⟩
        rw [hidx]
        go_wp2_with fail
        go_ret
        exact ⟨rfl, hbl⟩

theorem again_big (a0 : Option Addr) (len cap : Nat) (p : Int) (w : World) (hlen : 1024 < len) :
    Calls Yba.prog 6 #[.slice a0 len cap, .int .u16 p] w fun e w' => e = .returned (.bool true) ∧ Below w.heap.size w w' := by
  go_enter Yba.func6, Yba.ntmps6
  go_wp2_with fail
  go_ret
  exact ⟨rfl, Below.refl _ _⟩

end Go.Proofs.Ybulkuoc
