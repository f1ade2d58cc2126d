/- LawS1055BCommit: the row. -/
import Derived.Test.YbulkuvcLawB
import Derived.ProofKit
import Derived.OpenShut
import Derived.ShutString
import Derived.ChangeOld
import Derived.Deep.SlicePairs
import Derived.Deep.Matrix
namespace Go.Proofs.Ybulkuvc.Commit
open Go.ChangeShapes Go.WideShapes Go.ChangeAt Go.RowKit Go.WideMaps
set_option linter.unusedVariables false

theorem own : ownKnob Yba.prog.godebug = none := by kernel_rfl
theorem laidOut : laidOutB Yba.prog = true := by kernel_rfl
theorem cells26 : Yba.prog.cellsOf 26 = 2 := by kernel_rfl
theorem cells5 : Yba.prog.cellsOf 5 = 1 := by kernel_rfl
theorem cells24 : Yba.prog.cellsOf 24 = 1 := by kernel_rfl
theorem cells27 : Yba.prog.cellsOf 27 = 1 := by kernel_rfl

set_option maxRecDepth 100000 in
theorem walk (a0 : Option Addr) (len cap ed : Nat) (nod : Bool) (w0 : World) (hc : TsIn w0 a0 len) (hed : ed < 65536) :
    Calls Yba.prog 3 #[.slice a0 len cap, .int .u16 (ed : Nat), .bool nod] w0 fun e w' => e = .returned (.bool true) ∧ Below w0.heap.size w0 w' := by
  refine phA a0 len cap (ed : Int) nod w0 hc ?_
  intro w
  intros
  rename_i hw hlen hok
  subst hw
  exact phB a0 len cap ed w.heap.size nod w rfl hlen hed hok

/-- The bytes, the roles, the tenants: out of the datum. -/
theorem rolesIn {H : Type} {enc : TypeId × Value → H} {W : World} {base fuel : Nat} {held : Bool} {ra : Option Addr} {rl rc : Nat} {x : DataW H × List MemPlace} (h : DataW.trod enc Yba.prog W base (fun _ => true) held fuel 24 [.slice ra rl rc] = some x) : RolesIn W ra rl := by
  rcases Deep.open_int_rows Yba.underlying24 Yba.underlying27 Yba.underlying5 cells27 cells5 h with ⟨hcs, _⟩ | ⟨a, len, cap, A, L, C, Z, hcs, _, hl, hm, _, hr⟩
  · simp at hcs
    obtain ⟨rfl, rfl, rfl⟩ := hcs
    intro i hi
    omega
  · simp at hcs
    obtain ⟨rfl, rfl, rfl⟩ := hcs
    intro i hi
    obtain ⟨b, off, spot⟩ := a
    have hspot : spot = none := by simpa [Addr.add] using World.cell?_spot (hr 0 (by omega)).1
    subst hspot
    obtain ⟨hc, hLC, hCm, hZ, hwz, hnone, hsome⟩ := hr i (by omega)
    rw [add_plain] at hc
    refine ⟨b, off, A i, L i, C i, rfl, World.block_lt_of_cell? W _ hc, hc, ?_⟩
    intro k hk
    cases hA : A i with
    | none => have := hnone hA; omega
    | some a' =>
      obtain ⟨_, hcell⟩ := hsome a' hA
      obtain ⟨b', off', spot'⟩ := a'
      have hspot' : spot' = none := by simpa [Addr.add] using World.cell?_spot (hcell 0 (by omega))
      subst hspot'
      have hc' := hcell k (by omega)
      rw [add_plain] at hc'
      have hjz : (Z i)[k]? = some (Z i)[k] := List.getElem?_eq_getElem (by omega)
      have hwf := hwz (Z i)[k] (List.getElem_mem _)
      obtain ⟨z1, z2⟩ := bounds_u8 hwf
      obtain ⟨z, hzz⟩ := Int.eq_ofNat_of_zero_le z1
      simp only [List.getD_eq_getElem?_getD, hjz, Option.getD_some, hzz] at hc'
      exact ⟨b', off', z, rfl, World.block_lt_of_cell? W _ hc', hc', by omega⟩

set_option maxRecDepth 100000 in
theorem lifted (os : Os) (started : os.Started) (H : Type) (enc : TypeId × Value → H) :
    ReturnsInHanded {} Yba.checked os 3 .any (Rows.lawS1055BCommitSpec.pre6 enc Yba.prog Yba.f3 Rows.lawS1055BCommitRow.domain false) (Rows.lawS1055BCommitSpec.post enc Yba.prog Yba.f3 false true false false) := by
  refine returnsInHanded_of_change (C := Yba.checked) own started (by kernel_rfl) Yba.func3
    (ChangeSpec.witness6 (enc := enc) (C := Yba.checked) false ⟨#[], #[.slice none 0 0, .int .u16 0, .bool false], []⟩ 8 (by kernel_rfl) (by kernel_rfl) (by kernel_rfl) (by kernel_rfl)) ?_
  intro W base args ds gs before hval0 hW hcnd _
  have hval : ∀ (j : Nat) t v, Yba.f3.params[j]? = some t → args[j]? = some v → Value.okWide Yba.prog W .any base t v := hval0
  have hW' := hW
  obtain ⟨p, q, hA0, hV, rfl, hfz, hnd⟩ := hW
  have hA : DataW.TrodAll enc Yba.prog W 0 (fun _ => true) true Yba.f3.params.toList args.toList ds p := hA0
  rw [Yba.params3] at hA hval
  obtain ⟨v0, vs0, d0, ds0, p0, q0, hargs, rfl, rfl, h0, r0⟩ := trodAll_cons hA
  obtain ⟨v1, vs1, d1, ds1, p1, q1, rfl, rfl, rfl, h1, r1⟩ := trodAll_cons r0
  obtain ⟨v2, vs2, d2, ds2, p2, q2, rfl, rfl, rfl, h2, r2⟩ := trodAll_cons r1
  obtain ⟨rfl, rfl, rfl⟩ := trodAll_nil r2
  obtain rfl : args = #[v0, v1, v2] := by cases args; simp_all
  obtain ⟨rfl, rfl⟩ := trodVars_none hV
  obtain ⟨a0, len0, cap0, rfl⟩ := okWide_slice Yba.underlying22 (hval 0 22 v0 rfl rfl)
  have k0 := h0
  have lt0 : ∀ x ∈ p0, x.block < W.heap.size := by obtain ⟨m, hm⟩ := k0; exact DataW.trod_lt m _ _ _ hm
  have w0 : TsIn W a0 len0 := by
    obtain ⟨fuel, hf⟩ := h0
    rcases Deep.open_slice_pairs Yba.underlying22 Yba.underlying26 cells26 rfl rfl cells5 cells24 hf with ⟨hcs, _⟩ | ⟨a, len, cap, m, n, V0, V1, D0, D1, P0, P1, hcs, _, hl, hm, hmm, _, hr⟩
    · simp [Value.cells] at hcs
      obtain ⟨rfl, rfl, rfl⟩ := hcs
      intro j hj
      omega
    · simp [Value.cells] at hcs
      obtain ⟨rfl, rfl, rfl⟩ := hcs
      simp only [if_true] at hmm
      intro j hj
      obtain ⟨b, off, spot⟩ := a
      have hspot : spot = none := by simpa [Addr.add] using World.cell?_spot (hr 0 (by omega)).1
      subst hspot
      obtain ⟨c0, c1, t0, t1⟩ := hr j (by omega)
      rw [add_plain] at c0 c1
      obtain ⟨z, hz, _, hwf⟩ := DataW.trod_int Yba.underlying5 t0
      simp at hz
      obtain ⟨z1, z2⟩ := bounds_u8 hwf
      obtain ⟨zn, hzz⟩ := Int.eq_ofNat_of_zero_le z1
      obtain ⟨ra, rl, rc, hV1⟩ : ∃ ra rl rc, V1 j = .slice ra rl rc := by
        rcases Deep.open_int_rows Yba.underlying24 Yba.underlying27 Yba.underlying5 cells27 cells5 t1 with ⟨e, _⟩ | ⟨a, len, cap, A, L, C, Z, e, _⟩
        · simp at e
          exact ⟨_, _, _, e⟩
        · simp at e
          exact ⟨_, _, _, e⟩
      rw [hV1] at t1 c1
      rw [hz, hzz] at c0
      exact ⟨b, off, zn, ra, rl, rc, rfl, World.block_lt_of_cell? W _ c0, c0, by omega, c1, rolesIn t1⟩
  obtain ⟨a1, rfl, rfl, rfl, w1⟩ := open_int Yba.underlying23 (hval 1 23 v1 rfl rfl) h1
  obtain ⟨a2, rfl, rfl, rfl⟩ := open_bool Yba.underlying4 (hval 2 4 v2 rfl rfl) h2
  clear hA0 hval0
  obtain ⟨e1, e2⟩ := bounds_u16 w1
  obtain ⟨ed, rfl⟩ := Int.eq_ofNat_of_zero_le e1
  refine (walk a0 len0 cap0 ed a2 W w0 (by omega)).mono fun e W' ⟨he, bel⟩ => ?_
  subst he
  exact ⟨_, rfl, _, _, _, [], _, [], hW', trodAll_mk1 (shut_bool Yba.underlying4 _), (trodAll_cons_mk (Below.trod laidOut (by kernel_rfl) (of_decide_eq_true (by kernel_rfl)) k0 bel lt0) (trodAll_cons_mk (shut_int Yba.underlying23 w1) (trodAll_cons_mk (shut_bool Yba.underlying4 _) trodAll_mk0))), rfl, bel.frame _, fun h => by cases h⟩

theorem over : Rows.lawS1055BCommitRow.holds Yba.pinned (OpenSpec.ofChange Rows.lawS1055BCommitSpec) :=
  OpenClaim.holds_of_wide 3 Yba.f3 rfl rfl rfl rfl rfl rfl rfl ⟨rfl, rfl, rfl, rfl, rfl⟩ rfl rfl rfl rfl rfl (by kernel_rfl) Yba.func3 (by kernel_rfl)
    (of_decide_eq_true (by kernel_rfl)) (by unfold Func.isWrapper; first | (rw [if_pos (by decide +kernel)]; kernel_rfl) | (rw [if_neg (by decide +kernel)]; exact ⟨rfl, rfl⟩))
    (fun os started H enc _ => lifted os started H enc)

end Go.Proofs.Ybulkuvc.Commit

namespace Go.Proofs.Ybulkuvc
theorem lawS1055BCommit_proved : Rows.LawS1055BCommitSaid := Commit.over
end Go.Proofs.Ybulkuvc
