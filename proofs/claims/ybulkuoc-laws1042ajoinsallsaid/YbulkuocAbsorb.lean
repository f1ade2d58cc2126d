/- absorb. -/
import Derived.Test.YbulkuocLv
namespace Go.Proofs.Ybulkuoc
open Go.RowKit

/-- What absorb leaves. -/
def AbPost (c : Tc) (D : Nat → Option Ent) (A : Nat → List Nat) (W : Nat) (d : Nat → Int) (bud : Int) (w0 : World) (w : World) : Prop :=
  ∃ K v D' J O I L B m, Below c.base w0 w ∧ Rw c K v D' J O I L B m ∧ (∀ n, 19 ≤ n → n < 300 → n ≠ 23 → n ≠ 24 → D' n = D n) ∧
    ((bud < ((workTo A (preds A c.N) d W c.N : Nat) : Int) ∧ St c K { v with st := 0 } w) ∨ (((workTo A (preds A c.N) d W c.N : Nat) : Int) ≤ bud ∧ St c K v w ∧ v.work = ((workTo A (preds A c.N) d W c.N : Nat) : Int) ∧ J.Nodup ∧ (∀ u, u ∈ J ↔ 1 ≤ u ∧ u < c.N ∧ 0 ≤ d u) ∧ ∀ u ∈ J, L (pc J u) = d u))

theorem Gph.dW {c : Tc} {D : Nat → Option Ent} {A : Nat → List Nat} {W : Nat} {d : Nat → Int} (h : Gph c D A W d) : 0 ≤ d W := by
  have h0 := (h.row W h.wN).w0 rfl
  rcases h.dst.best W h.w1 h.wN with ⟨_, h2⟩ | ⟨x, _, h1, h2, _⟩
  · have := h2 0 h0; have := h.dst.z; omega
  · omega

theorem Inv.nil (A : Nat → List Nat) (N : Nat) (d : Nat → Int) : Inv A N d [] (fun _ => []) (fun _ => []) (fun _ _ => False) :=
  ⟨by simp, by simp, by simp, by simp, by simp, by simp, by simp, by simp⟩

theorem pls_nd {J l : List Nat} {p : Int} (h : l.Nodup) : (plsOf (plJ J) p l).Nodup :=
  plsOf_nodup h (fun u _ u' _ q h1 h2 => by
    obtain ⟨a1, a2⟩ := plOf_pc.1 h1
    obtain ⟨b1, b2⟩ := plOf_pc.1 h2
    exact pc_inj a1 b1 (a2.symm.trans b2))

set_option maxRecDepth 40000 in
set_option maxHeartbeats 12800000 in
theorem absorb_calls (c : Tc) (K D : Nat → Option Ent) (v : Tv) (w0 : World) (A : Nat → List Nat) (W : Nat) (d : Nat → Int) (L : Nat → Int) (bud : Int) (h : St c K v w0) (hR : Rw c K v D [] (fun _ => []) (fun _ => []) L 92 0) (hb : c.base ≤ w0.heap.size) (hG : Gph c D A W d) (hwk : v.work = 0) (hfr : v.fresh = .slice none 0 0) (hga : v.gained = .slice none 0 0) (hL0 : L 0 = -1) (hL1 : L 1 = 0) :
    Calls Yba.prog 12 #[.pointer (some ⟨c.C, 0, none⟩), .int .i64 (W : Nat), .int .i64 bud] w0 fun e w' => e = .returned (.tuple #[]) ∧ AbPost c D A W d bud w0 w' := by
  have HG : Hid (Gph c D A W d) := hG
  have hN2 := hG.n2
  have hN8 := hG.n8
  have hW1 := hG.w1
  have hWN := hG.wN
  have hWN' : (W : Int) < (c.N : Int) := by omega
  have hAl := hG.len hG.wN
  have HLT : Hid (∀ x ∈ A W, x < W) := fun x hx => ((hG.row W hG.wN).lt x hx).1
  have HLN : Hid (∀ x ∈ A W, x < c.N) := fun x hx => by have := ((hG.row W hG.wN).lt x hx).1; omega
  have HND : Hid (A W).Nodup := (hG.row W hG.wN).nd
  have H0W : Hid (0 ∈ A W) := (hG.row W hG.wN).w0 rfl
  have HDW : Hid (0 ≤ d W) := hG.dW
  have HR : Hid (Rw c K v D [] (fun _ => []) (fun _ => []) L 92 0) := hR
  have hMA := hR.adj hN8 hG.adj
  obtain ⟨vsA, eA, hvA⟩ := hMA.ex
  obtain ⟨gA, cA, hva0, _⟩ := h.sep.form eA |>.2 |>.resolve_left (by rintro ⟨_, h2⟩; have : c.N = 0 := h2; omega)
  have hva : c.va = .slice (some ⟨gA, 0, none⟩) c.N cA := hva0
  rw [hva] at hMA
  have HMA : Hid (Mat K 19 100 c.N (.slice (some ⟨gA, 0, none⟩) c.N cA) A) := hMA
  obtain ⟨gp, cp, hplv, _⟩ := h.sep.form hR.r0 |>.2 |>.resolve_left (by rintro ⟨_, h2⟩; simp at h2; omega)
  have hpl : c.pl = .slice (some ⟨gp, 0, none⟩) c.N cp := hplv
  have e0 : K 0 = some ⟨21, 1, c.N, .slice (some ⟨gp, 0, none⟩) c.N cp, plRow (plJ []) c.N⟩ := by rw [← hpl]; exact hR.r0
  have hplW : plJ [] W = 0 := by simp [plJ]; omega
  clear hR hG hMA eA hvA hva0 hplv
  go_enter Yba.func12, Yba.ntmps12
  go_upto_region 1 with (go_at_call 23; refine Calls.mono (catchUp_calls c K v w0 h hb) ?_; rintro e w1 ⟨rfl, hs1, hb1⟩)
  have hz1 : c.base ≤ w1.heap.size := by have := hb1.size; omega
  clear h
  refine wp_region_ghost (by kernel_rfl) (by kernel_rfl) (S := Unit) (fun i => ([some 13, some 14, some 15, some 16, some 17, some 18, some 19, some 20, some 21, some 22, some 23, some 24, some 25, some 26, some 27, none, some 28, some 29, none, some 30, some 31, none] : List (Option Nat)).getD i none) 13 31 (fun _ w' => St c K v w' ∧ Below c.base w0 w' ∧ c.base ≤ w'.heap.size) (fun k _ x => ∀ z, ([some (.pointer (some ⟨c.C, 0, none⟩)), some (.pointer (some ⟨c.C, 0, none⟩)), some (.pointer (some ⟨c.C, 0, none⟩)), some (.pointer (some ⟨c.C, 0, none⟩)), some (.pointer (some ⟨c.C, 0, none⟩)), some (.pointer (some ⟨c.C, 31, none⟩)), some (.slice none 0 0), some (.slice none 0 0), some (.pointer (some ⟨c.C, 0, none⟩)), some (.pointer (some ⟨c.C, 0, none⟩)), some (.pointer (some ⟨c.C, 32, none⟩)), some (.slice none 0 0), some (.slice none 0 0), some (.pointer (some ⟨c.C, 0, none⟩)), some (.pointer (some ⟨c.C, 30, none⟩)), none, some (.pointer (some ⟨c.C, 0, none⟩)), some (.pointer (some ⟨c.C, 31, none⟩)), none, some (.pointer (some ⟨c.C, 0, none⟩)), some (.pointer (some ⟨c.C, 32, none⟩)), none] : List (Option Value)).getD k none = some z → x = z) (fun _ _ => True) () ⟨hs1.drew, below_drewN hb1 1, hz1⟩ (fun _ _ => trivial) ?hslot ?hinj ?hstep ?hend
  case hslot => intro i s hi; have := allL (p := fun s => decide (13 ≤ s ∧ s ≤ 31)) (by decide) hi; simp at this; exact ⟨this.1, this.2, by simp; omega⟩
  case hinj => intro i j _ _ hij s h1 h2; exact hij (uniqL (by decide) h1 h2)
  case hstep =>
    intro k o ho
    match k, ho with
    | 0, ho =>
      simp at ho; subst ho; refine ⟨rfl, rfl, ?_⟩; intro s w a hGs _ hF haf
      have hP : Pre (fun k => ([some (.pointer (some ⟨c.C, 0, none⟩)), some (.pointer (some ⟨c.C, 0, none⟩)), some (.pointer (some ⟨c.C, 0, none⟩)), some (.pointer (some ⟨c.C, 0, none⟩)), some (.pointer (some ⟨c.C, 0, none⟩)), some (.pointer (some ⟨c.C, 31, none⟩)), some (.slice none 0 0), some (.slice none 0 0), some (.pointer (some ⟨c.C, 0, none⟩)), some (.pointer (some ⟨c.C, 0, none⟩)), some (.pointer (some ⟨c.C, 32, none⟩)), some (.slice none 0 0), some (.slice none 0 0), some (.pointer (some ⟨c.C, 0, none⟩)), some (.pointer (some ⟨c.C, 30, none⟩)), none, some (.pointer (some ⟨c.C, 0, none⟩)), some (.pointer (some ⟨c.C, 31, none⟩)), none, some (.pointer (some ⟨c.C, 0, none⟩)), some (.pointer (some ⟨c.C, 32, none⟩)), none] : List (Option Value)).getD k none) (fun i => ([some 13, some 14, some 15, some 16, some 17, some 18, some 19, some 20, some 21, some 22, some 23, some 24, some 25, some 26, some 27, none, some 28, some 29, none, some 30, some 31, none] : List (Option Nat)).getD i none) _ a := fun e he hb z t hz ht => by obtain ⟨y, h1, h2⟩ := haf e he hb; rw [h1 t ht, h2 z hz]
      refine ⟨.pointer (some ⟨c.C, 0, none⟩), w, (), .inl (by
      have hx : a.tmps[0]? = some (.pointer (some ⟨c.C, 0, none⟩)) := (hF.2.2 0 (.inl (by decide))).trans rfl; simp [execOp, hx, go_sem]), hGs, fun z hz => Option.some.inj hz, fun _ _ _ h => h, fun _ _ _ _ => trivial⟩
    | 1, ho =>
      simp at ho; subst ho; refine ⟨rfl, rfl, ?_⟩; intro s w a hGs _ hF haf
      have hP : Pre (fun k => ([some (.pointer (some ⟨c.C, 0, none⟩)), some (.pointer (some ⟨c.C, 0, none⟩)), some (.pointer (some ⟨c.C, 0, none⟩)), some (.pointer (some ⟨c.C, 0, none⟩)), some (.pointer (some ⟨c.C, 0, none⟩)), some (.pointer (some ⟨c.C, 31, none⟩)), some (.slice none 0 0), some (.slice none 0 0), some (.pointer (some ⟨c.C, 0, none⟩)), some (.pointer (some ⟨c.C, 0, none⟩)), some (.pointer (some ⟨c.C, 32, none⟩)), some (.slice none 0 0), some (.slice none 0 0), some (.pointer (some ⟨c.C, 0, none⟩)), some (.pointer (some ⟨c.C, 30, none⟩)), none, some (.pointer (some ⟨c.C, 0, none⟩)), some (.pointer (some ⟨c.C, 31, none⟩)), none, some (.pointer (some ⟨c.C, 0, none⟩)), some (.pointer (some ⟨c.C, 32, none⟩)), none] : List (Option Value)).getD k none) (fun i => ([some 13, some 14, some 15, some 16, some 17, some 18, some 19, some 20, some 21, some 22, some 23, some 24, some 25, some 26, some 27, none, some 28, some 29, none, some 30, some 31, none] : List (Option Nat)).getD i none) _ a := fun e he hb z t hz ht => by obtain ⟨y, h1, h2⟩ := haf e he hb; rw [h1 t ht, h2 z hz]
      refine ⟨.pointer (some ⟨c.C, 0, none⟩), w, (), .inl (by
      have hx : a.tmps[0]? = some (.pointer (some ⟨c.C, 0, none⟩)) := (hF.2.2 0 (.inl (by decide))).trans rfl; simp [execOp, hx, go_sem]), hGs, fun z hz => Option.some.inj hz, fun _ _ _ h => h, fun _ _ _ _ => trivial⟩
    | 2, ho =>
      simp at ho; subst ho; refine ⟨rfl, rfl, ?_⟩; intro s w a hGs _ hF haf
      have hP : Pre (fun k => ([some (.pointer (some ⟨c.C, 0, none⟩)), some (.pointer (some ⟨c.C, 0, none⟩)), some (.pointer (some ⟨c.C, 0, none⟩)), some (.pointer (some ⟨c.C, 0, none⟩)), some (.pointer (some ⟨c.C, 0, none⟩)), some (.pointer (some ⟨c.C, 31, none⟩)), some (.slice none 0 0), some (.slice none 0 0), some (.pointer (some ⟨c.C, 0, none⟩)), some (.pointer (some ⟨c.C, 0, none⟩)), some (.pointer (some ⟨c.C, 32, none⟩)), some (.slice none 0 0), some (.slice none 0 0), some (.pointer (some ⟨c.C, 0, none⟩)), some (.pointer (some ⟨c.C, 30, none⟩)), none, some (.pointer (some ⟨c.C, 0, none⟩)), some (.pointer (some ⟨c.C, 31, none⟩)), none, some (.pointer (some ⟨c.C, 0, none⟩)), some (.pointer (some ⟨c.C, 32, none⟩)), none] : List (Option Value)).getD k none) (fun i => ([some 13, some 14, some 15, some 16, some 17, some 18, some 19, some 20, some 21, some 22, some 23, some 24, some 25, some 26, some 27, none, some 28, some 29, none, some 30, some 31, none] : List (Option Nat)).getD i none) _ a := fun e he hb z t hz ht => by obtain ⟨y, h1, h2⟩ := haf e he hb; rw [h1 t ht, h2 z hz]
      refine ⟨.pointer (some ⟨c.C, 0, none⟩), w, (), .inl (by
      have hx : a.tmps[0]? = some (.pointer (some ⟨c.C, 0, none⟩)) := (hF.2.2 0 (.inl (by decide))).trans rfl; simp [execOp, hx, go_sem]), hGs, fun z hz => Option.some.inj hz, fun _ _ _ h => h, fun _ _ _ _ => trivial⟩
    | 3, ho =>
      simp at ho; subst ho; refine ⟨rfl, rfl, ?_⟩; intro s w a hGs _ hF haf
      have hP : Pre (fun k => ([some (.pointer (some ⟨c.C, 0, none⟩)), some (.pointer (some ⟨c.C, 0, none⟩)), some (.pointer (some ⟨c.C, 0, none⟩)), some (.pointer (some ⟨c.C, 0, none⟩)), some (.pointer (some ⟨c.C, 0, none⟩)), some (.pointer (some ⟨c.C, 31, none⟩)), some (.slice none 0 0), some (.slice none 0 0), some (.pointer (some ⟨c.C, 0, none⟩)), some (.pointer (some ⟨c.C, 0, none⟩)), some (.pointer (some ⟨c.C, 32, none⟩)), some (.slice none 0 0), some (.slice none 0 0), some (.pointer (some ⟨c.C, 0, none⟩)), some (.pointer (some ⟨c.C, 30, none⟩)), none, some (.pointer (some ⟨c.C, 0, none⟩)), some (.pointer (some ⟨c.C, 31, none⟩)), none, some (.pointer (some ⟨c.C, 0, none⟩)), some (.pointer (some ⟨c.C, 32, none⟩)), none] : List (Option Value)).getD k none) (fun i => ([some 13, some 14, some 15, some 16, some 17, some 18, some 19, some 20, some 21, some 22, some 23, some 24, some 25, some 26, some 27, none, some 28, some 29, none, some 30, some 31, none] : List (Option Nat)).getD i none) _ a := fun e he hb z t hz ht => by obtain ⟨y, h1, h2⟩ := haf e he hb; rw [h1 t ht, h2 z hz]
      refine ⟨.pointer (some ⟨c.C, 0, none⟩), w, (), .inl (by
      have hx : a.tmps[0]? = some (.pointer (some ⟨c.C, 0, none⟩)) := (hF.2.2 0 (.inl (by decide))).trans rfl; simp [execOp, hx, go_sem]), hGs, fun z hz => Option.some.inj hz, fun _ _ _ h => h, fun _ _ _ _ => trivial⟩
    | 4, ho =>
      simp at ho; subst ho; refine ⟨rfl, rfl, ?_⟩; intro s w a hGs _ hF haf
      have hP : Pre (fun k => ([some (.pointer (some ⟨c.C, 0, none⟩)), some (.pointer (some ⟨c.C, 0, none⟩)), some (.pointer (some ⟨c.C, 0, none⟩)), some (.pointer (some ⟨c.C, 0, none⟩)), some (.pointer (some ⟨c.C, 0, none⟩)), some (.pointer (some ⟨c.C, 31, none⟩)), some (.slice none 0 0), some (.slice none 0 0), some (.pointer (some ⟨c.C, 0, none⟩)), some (.pointer (some ⟨c.C, 0, none⟩)), some (.pointer (some ⟨c.C, 32, none⟩)), some (.slice none 0 0), some (.slice none 0 0), some (.pointer (some ⟨c.C, 0, none⟩)), some (.pointer (some ⟨c.C, 30, none⟩)), none, some (.pointer (some ⟨c.C, 0, none⟩)), some (.pointer (some ⟨c.C, 31, none⟩)), none, some (.pointer (some ⟨c.C, 0, none⟩)), some (.pointer (some ⟨c.C, 32, none⟩)), none] : List (Option Value)).getD k none) (fun i => ([some 13, some 14, some 15, some 16, some 17, some 18, some 19, some 20, some 21, some 22, some 23, some 24, some 25, some 26, some 27, none, some 28, some 29, none, some 30, some 31, none] : List (Option Nat)).getD i none) _ a := fun e he hb z t hz ht => by obtain ⟨y, h1, h2⟩ := haf e he hb; rw [h1 t ht, h2 z hz]
      refine ⟨.pointer (some ⟨c.C, 0, none⟩), w, (), .inl (by
      have hx := hP ⟨3, .data⟩ (by simp) rfl _ _ rfl rfl; simp [execOp, hx, go_sem]), hGs, fun z hz => Option.some.inj hz, fun _ _ _ h => h, fun _ _ _ _ => trivial⟩
    | 5, ho =>
      simp at ho; subst ho; refine ⟨rfl, rfl, ?_⟩; intro s w a hGs _ hF haf
      have hP : Pre (fun k => ([some (.pointer (some ⟨c.C, 0, none⟩)), some (.pointer (some ⟨c.C, 0, none⟩)), some (.pointer (some ⟨c.C, 0, none⟩)), some (.pointer (some ⟨c.C, 0, none⟩)), some (.pointer (some ⟨c.C, 0, none⟩)), some (.pointer (some ⟨c.C, 31, none⟩)), some (.slice none 0 0), some (.slice none 0 0), some (.pointer (some ⟨c.C, 0, none⟩)), some (.pointer (some ⟨c.C, 0, none⟩)), some (.pointer (some ⟨c.C, 32, none⟩)), some (.slice none 0 0), some (.slice none 0 0), some (.pointer (some ⟨c.C, 0, none⟩)), some (.pointer (some ⟨c.C, 30, none⟩)), none, some (.pointer (some ⟨c.C, 0, none⟩)), some (.pointer (some ⟨c.C, 31, none⟩)), none, some (.pointer (some ⟨c.C, 0, none⟩)), some (.pointer (some ⟨c.C, 32, none⟩)), none] : List (Option Value)).getD k none) (fun i => ([some 13, some 14, some 15, some 16, some 17, some 18, some 19, some 20, some 21, some 22, some 23, some 24, some 25, some 26, some 27, none, some 28, some 29, none, some 30, some 31, none] : List (Option Nat)).getD i none) _ a := fun e he hb z t hz ht => by obtain ⟨y, h1, h2⟩ := haf e he hb; rw [h1 t ht, h2 z hz]
      refine ⟨.pointer (some ⟨c.C, 31, none⟩), w, (), .inl (by
      have hx := hP ⟨4, .data⟩ (by simp) rfl _ _ rfl rfl; simp [execOp, hx, go_sem]), hGs, fun z hz => Option.some.inj hz, fun _ _ _ h => h, fun _ _ _ _ => trivial⟩
    | 6, ho =>
      simp at ho; subst ho; refine ⟨rfl, rfl, ?_⟩; intro s w a hGs _ hF haf
      have hP : Pre (fun k => ([some (.pointer (some ⟨c.C, 0, none⟩)), some (.pointer (some ⟨c.C, 0, none⟩)), some (.pointer (some ⟨c.C, 0, none⟩)), some (.pointer (some ⟨c.C, 0, none⟩)), some (.pointer (some ⟨c.C, 0, none⟩)), some (.pointer (some ⟨c.C, 31, none⟩)), some (.slice none 0 0), some (.slice none 0 0), some (.pointer (some ⟨c.C, 0, none⟩)), some (.pointer (some ⟨c.C, 0, none⟩)), some (.pointer (some ⟨c.C, 32, none⟩)), some (.slice none 0 0), some (.slice none 0 0), some (.pointer (some ⟨c.C, 0, none⟩)), some (.pointer (some ⟨c.C, 30, none⟩)), none, some (.pointer (some ⟨c.C, 0, none⟩)), some (.pointer (some ⟨c.C, 31, none⟩)), none, some (.pointer (some ⟨c.C, 0, none⟩)), some (.pointer (some ⟨c.C, 32, none⟩)), none] : List (Option Value)).getD k none) (fun i => ([some 13, some 14, some 15, some 16, some 17, some 18, some 19, some 20, some 21, some 22, some 23, some 24, some 25, some 26, some 27, none, some 28, some 29, none, some 30, some 31, none] : List (Option Nat)).getD i none) _ a := fun e he hb z t hz ht => by obtain ⟨y, h1, h2⟩ := haf e he hb; rw [h1 t ht, h2 z hz]
      refine ⟨.slice none 0 0, w, (), .inl (by
      have hx := hP ⟨5, .data⟩ (by simp) rfl _ _ rfl rfl; have hc : w.cell? ⟨c.C, 31, none⟩ = some (.slice none 0 0) := by rw [← hfr]; exact hGs.1.hC.cell? 31
      simp [execOp, hx, hc, go_sem]), hGs, fun z hz => Option.some.inj hz, fun _ _ _ h => h, fun _ _ _ _ => trivial⟩
    | 7, ho =>
      simp at ho; subst ho; refine ⟨rfl, rfl, ?_⟩; intro s w a hGs _ hF haf
      have hP : Pre (fun k => ([some (.pointer (some ⟨c.C, 0, none⟩)), some (.pointer (some ⟨c.C, 0, none⟩)), some (.pointer (some ⟨c.C, 0, none⟩)), some (.pointer (some ⟨c.C, 0, none⟩)), some (.pointer (some ⟨c.C, 0, none⟩)), some (.pointer (some ⟨c.C, 31, none⟩)), some (.slice none 0 0), some (.slice none 0 0), some (.pointer (some ⟨c.C, 0, none⟩)), some (.pointer (some ⟨c.C, 0, none⟩)), some (.pointer (some ⟨c.C, 32, none⟩)), some (.slice none 0 0), some (.slice none 0 0), some (.pointer (some ⟨c.C, 0, none⟩)), some (.pointer (some ⟨c.C, 30, none⟩)), none, some (.pointer (some ⟨c.C, 0, none⟩)), some (.pointer (some ⟨c.C, 31, none⟩)), none, some (.pointer (some ⟨c.C, 0, none⟩)), some (.pointer (some ⟨c.C, 32, none⟩)), none] : List (Option Value)).getD k none) (fun i => ([some 13, some 14, some 15, some 16, some 17, some 18, some 19, some 20, some 21, some 22, some 23, some 24, some 25, some 26, some 27, none, some 28, some 29, none, some 30, some 31, none] : List (Option Nat)).getD i none) _ a := fun e he hb z t hz ht => by obtain ⟨y, h1, h2⟩ := haf e he hb; rw [h1 t ht, h2 z hz]
      refine ⟨.slice none 0 0, w, (), .inl (by
      have hx := hP ⟨6, .data⟩ (by simp) rfl _ _ rfl rfl; simp [execOp, hx, go_sem]), hGs, fun z hz => Option.some.inj hz, fun _ _ _ h => h, fun _ _ _ _ => trivial⟩
    | 8, ho =>
      simp at ho; subst ho; refine ⟨rfl, rfl, ?_⟩; intro s w a hGs _ hF haf
      have hP : Pre (fun k => ([some (.pointer (some ⟨c.C, 0, none⟩)), some (.pointer (some ⟨c.C, 0, none⟩)), some (.pointer (some ⟨c.C, 0, none⟩)), some (.pointer (some ⟨c.C, 0, none⟩)), some (.pointer (some ⟨c.C, 0, none⟩)), some (.pointer (some ⟨c.C, 31, none⟩)), some (.slice none 0 0), some (.slice none 0 0), some (.pointer (some ⟨c.C, 0, none⟩)), some (.pointer (some ⟨c.C, 0, none⟩)), some (.pointer (some ⟨c.C, 32, none⟩)), some (.slice none 0 0), some (.slice none 0 0), some (.pointer (some ⟨c.C, 0, none⟩)), some (.pointer (some ⟨c.C, 30, none⟩)), none, some (.pointer (some ⟨c.C, 0, none⟩)), some (.pointer (some ⟨c.C, 31, none⟩)), none, some (.pointer (some ⟨c.C, 0, none⟩)), some (.pointer (some ⟨c.C, 32, none⟩)), none] : List (Option Value)).getD k none) (fun i => ([some 13, some 14, some 15, some 16, some 17, some 18, some 19, some 20, some 21, some 22, some 23, some 24, some 25, some 26, some 27, none, some 28, some 29, none, some 30, some 31, none] : List (Option Nat)).getD i none) _ a := fun e he hb z t hz ht => by obtain ⟨y, h1, h2⟩ := haf e he hb; rw [h1 t ht, h2 z hz]
      refine ⟨.pointer (some ⟨c.C, 0, none⟩), w, (), .inl (by
      have hx : a.tmps[0]? = some (.pointer (some ⟨c.C, 0, none⟩)) := (hF.2.2 0 (.inl (by decide))).trans rfl; simp [execOp, hx, go_sem]), hGs, fun z hz => Option.some.inj hz, fun _ _ _ h => h, fun _ _ _ _ => trivial⟩
    | 9, ho =>
      simp at ho; subst ho; refine ⟨rfl, rfl, ?_⟩; intro s w a hGs _ hF haf
      have hP : Pre (fun k => ([some (.pointer (some ⟨c.C, 0, none⟩)), some (.pointer (some ⟨c.C, 0, none⟩)), some (.pointer (some ⟨c.C, 0, none⟩)), some (.pointer (some ⟨c.C, 0, none⟩)), some (.pointer (some ⟨c.C, 0, none⟩)), some (.pointer (some ⟨c.C, 31, none⟩)), some (.slice none 0 0), some (.slice none 0 0), some (.pointer (some ⟨c.C, 0, none⟩)), some (.pointer (some ⟨c.C, 0, none⟩)), some (.pointer (some ⟨c.C, 32, none⟩)), some (.slice none 0 0), some (.slice none 0 0), some (.pointer (some ⟨c.C, 0, none⟩)), some (.pointer (some ⟨c.C, 30, none⟩)), none, some (.pointer (some ⟨c.C, 0, none⟩)), some (.pointer (some ⟨c.C, 31, none⟩)), none, some (.pointer (some ⟨c.C, 0, none⟩)), some (.pointer (some ⟨c.C, 32, none⟩)), none] : List (Option Value)).getD k none) (fun i => ([some 13, some 14, some 15, some 16, some 17, some 18, some 19, some 20, some 21, some 22, some 23, some 24, some 25, some 26, some 27, none, some 28, some 29, none, some 30, some 31, none] : List (Option Nat)).getD i none) _ a := fun e he hb z t hz ht => by obtain ⟨y, h1, h2⟩ := haf e he hb; rw [h1 t ht, h2 z hz]
      refine ⟨.pointer (some ⟨c.C, 0, none⟩), w, (), .inl (by
      have hx := hP ⟨8, .data⟩ (by simp) rfl _ _ rfl rfl; simp [execOp, hx, go_sem]), hGs, fun z hz => Option.some.inj hz, fun _ _ _ h => h, fun _ _ _ _ => trivial⟩
    | 10, ho =>
      simp at ho; subst ho; refine ⟨rfl, rfl, ?_⟩; intro s w a hGs _ hF haf
      have hP : Pre (fun k => ([some (.pointer (some ⟨c.C, 0, none⟩)), some (.pointer (some ⟨c.C, 0, none⟩)), some (.pointer (some ⟨c.C, 0, none⟩)), some (.pointer (some ⟨c.C, 0, none⟩)), some (.pointer (some ⟨c.C, 0, none⟩)), some (.pointer (some ⟨c.C, 31, none⟩)), some (.slice none 0 0), some (.slice none 0 0), some (.pointer (some ⟨c.C, 0, none⟩)), some (.pointer (some ⟨c.C, 0, none⟩)), some (.pointer (some ⟨c.C, 32, none⟩)), some (.slice none 0 0), some (.slice none 0 0), some (.pointer (some ⟨c.C, 0, none⟩)), some (.pointer (some ⟨c.C, 30, none⟩)), none, some (.pointer (some ⟨c.C, 0, none⟩)), some (.pointer (some ⟨c.C, 31, none⟩)), none, some (.pointer (some ⟨c.C, 0, none⟩)), some (.pointer (some ⟨c.C, 32, none⟩)), none] : List (Option Value)).getD k none) (fun i => ([some 13, some 14, some 15, some 16, some 17, some 18, some 19, some 20, some 21, some 22, some 23, some 24, some 25, some 26, some 27, none, some 28, some 29, none, some 30, some 31, none] : List (Option Nat)).getD i none) _ a := fun e he hb z t hz ht => by obtain ⟨y, h1, h2⟩ := haf e he hb; rw [h1 t ht, h2 z hz]
      refine ⟨.pointer (some ⟨c.C, 32, none⟩), w, (), .inl (by
      have hx := hP ⟨9, .data⟩ (by simp) rfl _ _ rfl rfl; simp [execOp, hx, go_sem]), hGs, fun z hz => Option.some.inj hz, fun _ _ _ h => h, fun _ _ _ _ => trivial⟩
    | 11, ho =>
      simp at ho; subst ho; refine ⟨rfl, rfl, ?_⟩; intro s w a hGs _ hF haf
      have hP : Pre (fun k => ([some (.pointer (some ⟨c.C, 0, none⟩)), some (.pointer (some ⟨c.C, 0, none⟩)), some (.pointer (some ⟨c.C, 0, none⟩)), some (.pointer (some ⟨c.C, 0, none⟩)), some (.pointer (some ⟨c.C, 0, none⟩)), some (.pointer (some ⟨c.C, 31, none⟩)), some (.slice none 0 0), some (.slice none 0 0), some (.pointer (some ⟨c.C, 0, none⟩)), some (.pointer (some ⟨c.C, 0, none⟩)), some (.pointer (some ⟨c.C, 32, none⟩)), some (.slice none 0 0), some (.slice none 0 0), some (.pointer (some ⟨c.C, 0, none⟩)), some (.pointer (some ⟨c.C, 30, none⟩)), none, some (.pointer (some ⟨c.C, 0, none⟩)), some (.pointer (some ⟨c.C, 31, none⟩)), none, some (.pointer (some ⟨c.C, 0, none⟩)), some (.pointer (some ⟨c.C, 32, none⟩)), none] : List (Option Value)).getD k none) (fun i => ([some 13, some 14, some 15, some 16, some 17, some 18, some 19, some 20, some 21, some 22, some 23, some 24, some 25, some 26, some 27, none, some 28, some 29, none, some 30, some 31, none] : List (Option Nat)).getD i none) _ a := fun e he hb z t hz ht => by obtain ⟨y, h1, h2⟩ := haf e he hb; rw [h1 t ht, h2 z hz]
      refine ⟨.slice none 0 0, w, (), .inl (by
      have hx := hP ⟨10, .data⟩ (by simp) rfl _ _ rfl rfl; have hc : w.cell? ⟨c.C, 32, none⟩ = some (.slice none 0 0) := by rw [← hga]; exact hGs.1.hC.cell? 32
      simp [execOp, hx, hc, go_sem]), hGs, fun z hz => Option.some.inj hz, fun _ _ _ h => h, fun _ _ _ _ => trivial⟩
    | 12, ho =>
      simp at ho; subst ho; refine ⟨rfl, rfl, ?_⟩; intro s w a hGs _ hF haf
      have hP : Pre (fun k => ([some (.pointer (some ⟨c.C, 0, none⟩)), some (.pointer (some ⟨c.C, 0, none⟩)), some (.pointer (some ⟨c.C, 0, none⟩)), some (.pointer (some ⟨c.C, 0, none⟩)), some (.pointer (some ⟨c.C, 0, none⟩)), some (.pointer (some ⟨c.C, 31, none⟩)), some (.slice none 0 0), some (.slice none 0 0), some (.pointer (some ⟨c.C, 0, none⟩)), some (.pointer (some ⟨c.C, 0, none⟩)), some (.pointer (some ⟨c.C, 32, none⟩)), some (.slice none 0 0), some (.slice none 0 0), some (.pointer (some ⟨c.C, 0, none⟩)), some (.pointer (some ⟨c.C, 30, none⟩)), none, some (.pointer (some ⟨c.C, 0, none⟩)), some (.pointer (some ⟨c.C, 31, none⟩)), none, some (.pointer (some ⟨c.C, 0, none⟩)), some (.pointer (some ⟨c.C, 32, none⟩)), none] : List (Option Value)).getD k none) (fun i => ([some 13, some 14, some 15, some 16, some 17, some 18, some 19, some 20, some 21, some 22, some 23, some 24, some 25, some 26, some 27, none, some 28, some 29, none, some 30, some 31, none] : List (Option Nat)).getD i none) _ a := fun e he hb z t hz ht => by obtain ⟨y, h1, h2⟩ := haf e he hb; rw [h1 t ht, h2 z hz]
      refine ⟨.slice none 0 0, w, (), .inl (by
      have hx := hP ⟨11, .data⟩ (by simp) rfl _ _ rfl rfl; simp [execOp, hx, go_sem]), hGs, fun z hz => Option.some.inj hz, fun _ _ _ h => h, fun _ _ _ _ => trivial⟩
    | 13, ho =>
      simp at ho; subst ho; refine ⟨rfl, rfl, ?_⟩; intro s w a hGs _ hF haf
      have hP : Pre (fun k => ([some (.pointer (some ⟨c.C, 0, none⟩)), some (.pointer (some ⟨c.C, 0, none⟩)), some (.pointer (some ⟨c.C, 0, none⟩)), some (.pointer (some ⟨c.C, 0, none⟩)), some (.pointer (some ⟨c.C, 0, none⟩)), some (.pointer (some ⟨c.C, 31, none⟩)), some (.slice none 0 0), some (.slice none 0 0), some (.pointer (some ⟨c.C, 0, none⟩)), some (.pointer (some ⟨c.C, 0, none⟩)), some (.pointer (some ⟨c.C, 32, none⟩)), some (.slice none 0 0), some (.slice none 0 0), some (.pointer (some ⟨c.C, 0, none⟩)), some (.pointer (some ⟨c.C, 30, none⟩)), none, some (.pointer (some ⟨c.C, 0, none⟩)), some (.pointer (some ⟨c.C, 31, none⟩)), none, some (.pointer (some ⟨c.C, 0, none⟩)), some (.pointer (some ⟨c.C, 32, none⟩)), none] : List (Option Value)).getD k none) (fun i => ([some 13, some 14, some 15, some 16, some 17, some 18, some 19, some 20, some 21, some 22, some 23, some 24, some 25, some 26, some 27, none, some 28, some 29, none, some 30, some 31, none] : List (Option Nat)).getD i none) _ a := fun e he hb z t hz ht => by obtain ⟨y, h1, h2⟩ := haf e he hb; rw [h1 t ht, h2 z hz]
      refine ⟨.pointer (some ⟨c.C, 0, none⟩), w, (), .inl (by
      have hx := hP ⟨0, .data⟩ (by simp) rfl _ _ rfl rfl; simp [execOp, hx, go_sem]), hGs, fun z hz => Option.some.inj hz, fun _ _ _ h => h, fun _ _ _ _ => trivial⟩
    | 14, ho =>
      simp at ho; subst ho; refine ⟨rfl, rfl, ?_⟩; intro s w a hGs _ hF haf
      have hP : Pre (fun k => ([some (.pointer (some ⟨c.C, 0, none⟩)), some (.pointer (some ⟨c.C, 0, none⟩)), some (.pointer (some ⟨c.C, 0, none⟩)), some (.pointer (some ⟨c.C, 0, none⟩)), some (.pointer (some ⟨c.C, 0, none⟩)), some (.pointer (some ⟨c.C, 31, none⟩)), some (.slice none 0 0), some (.slice none 0 0), some (.pointer (some ⟨c.C, 0, none⟩)), some (.pointer (some ⟨c.C, 0, none⟩)), some (.pointer (some ⟨c.C, 32, none⟩)), some (.slice none 0 0), some (.slice none 0 0), some (.pointer (some ⟨c.C, 0, none⟩)), some (.pointer (some ⟨c.C, 30, none⟩)), none, some (.pointer (some ⟨c.C, 0, none⟩)), some (.pointer (some ⟨c.C, 31, none⟩)), none, some (.pointer (some ⟨c.C, 0, none⟩)), some (.pointer (some ⟨c.C, 32, none⟩)), none] : List (Option Value)).getD k none) (fun i => ([some 13, some 14, some 15, some 16, some 17, some 18, some 19, some 20, some 21, some 22, some 23, some 24, some 25, some 26, some 27, none, some 28, some 29, none, some 30, some 31, none] : List (Option Nat)).getD i none) _ a := fun e he hb z t hz ht => by obtain ⟨y, h1, h2⟩ := haf e he hb; rw [h1 t ht, h2 z hz]
      refine ⟨.pointer (some ⟨c.C, 30, none⟩), w, (), .inl (by
      have hx := hP ⟨13, .data⟩ (by simp) rfl _ _ rfl rfl; simp [execOp, hx, go_sem]), hGs, fun z hz => Option.some.inj hz, fun _ _ _ h => h, fun _ _ _ _ => trivial⟩
    | 15, ho =>
      simp at ho; subst ho; refine ⟨rfl, rfl, ?_⟩; intro s w a hGs _ hF haf
      have hP : Pre (fun k => ([some (.pointer (some ⟨c.C, 0, none⟩)), some (.pointer (some ⟨c.C, 0, none⟩)), some (.pointer (some ⟨c.C, 0, none⟩)), some (.pointer (some ⟨c.C, 0, none⟩)), some (.pointer (some ⟨c.C, 0, none⟩)), some (.pointer (some ⟨c.C, 31, none⟩)), some (.slice none 0 0), some (.slice none 0 0), some (.pointer (some ⟨c.C, 0, none⟩)), some (.pointer (some ⟨c.C, 0, none⟩)), some (.pointer (some ⟨c.C, 32, none⟩)), some (.slice none 0 0), some (.slice none 0 0), some (.pointer (some ⟨c.C, 0, none⟩)), some (.pointer (some ⟨c.C, 30, none⟩)), none, some (.pointer (some ⟨c.C, 0, none⟩)), some (.pointer (some ⟨c.C, 31, none⟩)), none, some (.pointer (some ⟨c.C, 0, none⟩)), some (.pointer (some ⟨c.C, 32, none⟩)), none] : List (Option Value)).getD k none) (fun i => ([some 13, some 14, some 15, some 16, some 17, some 18, some 19, some 20, some 21, some 22, some 23, some 24, some 25, some 26, some 27, none, some 28, some 29, none, some 30, some 31, none] : List (Option Nat)).getD i none) _ a := fun e he hb z t hz ht => by obtain ⟨y, h1, h2⟩ := haf e he hb; rw [h1 t ht, h2 z hz]
      have hst : St c K v (w.setCell ⟨c.C, 30, none⟩ (.int .i64 0)) := by
        have := hGs.1.setC (v' := v) 30 (.int .i64 v.work) rfl rfl rfl rfl rfl rfl rfl
        rw [hwk] at this; exact this
      refine ⟨undef, w.setCell ⟨c.C, 30, none⟩ (.int .i64 0), (), .inr ⟨by
      have hx := hP ⟨14, .data⟩ (by simp) rfl _ _ rfl rfl; have hfree := hGs.1.hC.free 30; have hcc := hGs.1.hC.cell? 30; simp only [thrOf] at hcc; simp [execOp, hx, go_sem, hfree, hcc], rfl⟩, ⟨hst, hGs.2.1.setCell hGs.1.lo.1 _, by simpa using hGs.2.2⟩, fun z hz => (by cases hz), fun _ _ _ h => h, fun _ _ _ _ => trivial⟩
    | 16, ho =>
      simp at ho; subst ho; refine ⟨rfl, rfl, ?_⟩; intro s w a hGs _ hF haf
      have hP : Pre (fun k => ([some (.pointer (some ⟨c.C, 0, none⟩)), some (.pointer (some ⟨c.C, 0, none⟩)), some (.pointer (some ⟨c.C, 0, none⟩)), some (.pointer (some ⟨c.C, 0, none⟩)), some (.pointer (some ⟨c.C, 0, none⟩)), some (.pointer (some ⟨c.C, 31, none⟩)), some (.slice none 0 0), some (.slice none 0 0), some (.pointer (some ⟨c.C, 0, none⟩)), some (.pointer (some ⟨c.C, 0, none⟩)), some (.pointer (some ⟨c.C, 32, none⟩)), some (.slice none 0 0), some (.slice none 0 0), some (.pointer (some ⟨c.C, 0, none⟩)), some (.pointer (some ⟨c.C, 30, none⟩)), none, some (.pointer (some ⟨c.C, 0, none⟩)), some (.pointer (some ⟨c.C, 31, none⟩)), none, some (.pointer (some ⟨c.C, 0, none⟩)), some (.pointer (some ⟨c.C, 32, none⟩)), none] : List (Option Value)).getD k none) (fun i => ([some 13, some 14, some 15, some 16, some 17, some 18, some 19, some 20, some 21, some 22, some 23, some 24, some 25, some 26, some 27, none, some 28, some 29, none, some 30, some 31, none] : List (Option Nat)).getD i none) _ a := fun e he hb z t hz ht => by obtain ⟨y, h1, h2⟩ := haf e he hb; rw [h1 t ht, h2 z hz]
      refine ⟨.pointer (some ⟨c.C, 0, none⟩), w, (), .inl (by
      have hx := hP ⟨1, .data⟩ (by simp) rfl _ _ rfl rfl; simp [execOp, hx, go_sem]), hGs, fun z hz => Option.some.inj hz, fun _ _ _ h => h, fun _ _ _ _ => trivial⟩
    | 17, ho =>
      simp at ho; subst ho; refine ⟨rfl, rfl, ?_⟩; intro s w a hGs _ hF haf
      have hP : Pre (fun k => ([some (.pointer (some ⟨c.C, 0, none⟩)), some (.pointer (some ⟨c.C, 0, none⟩)), some (.pointer (some ⟨c.C, 0, none⟩)), some (.pointer (some ⟨c.C, 0, none⟩)), some (.pointer (some ⟨c.C, 0, none⟩)), some (.pointer (some ⟨c.C, 31, none⟩)), some (.slice none 0 0), some (.slice none 0 0), some (.pointer (some ⟨c.C, 0, none⟩)), some (.pointer (some ⟨c.C, 0, none⟩)), some (.pointer (some ⟨c.C, 32, none⟩)), some (.slice none 0 0), some (.slice none 0 0), some (.pointer (some ⟨c.C, 0, none⟩)), some (.pointer (some ⟨c.C, 30, none⟩)), none, some (.pointer (some ⟨c.C, 0, none⟩)), some (.pointer (some ⟨c.C, 31, none⟩)), none, some (.pointer (some ⟨c.C, 0, none⟩)), some (.pointer (some ⟨c.C, 32, none⟩)), none] : List (Option Value)).getD k none) (fun i => ([some 13, some 14, some 15, some 16, some 17, some 18, some 19, some 20, some 21, some 22, some 23, some 24, some 25, some 26, some 27, none, some 28, some 29, none, some 30, some 31, none] : List (Option Nat)).getD i none) _ a := fun e he hb z t hz ht => by obtain ⟨y, h1, h2⟩ := haf e he hb; rw [h1 t ht, h2 z hz]
      refine ⟨.pointer (some ⟨c.C, 31, none⟩), w, (), .inl (by
      have hx := hP ⟨16, .data⟩ (by simp) rfl _ _ rfl rfl; simp [execOp, hx, go_sem]), hGs, fun z hz => Option.some.inj hz, fun _ _ _ h => h, fun _ _ _ _ => trivial⟩
    | 18, ho =>
      simp at ho; subst ho; refine ⟨rfl, rfl, ?_⟩; intro s w a hGs _ hF haf
      have hP : Pre (fun k => ([some (.pointer (some ⟨c.C, 0, none⟩)), some (.pointer (some ⟨c.C, 0, none⟩)), some (.pointer (some ⟨c.C, 0, none⟩)), some (.pointer (some ⟨c.C, 0, none⟩)), some (.pointer (some ⟨c.C, 0, none⟩)), some (.pointer (some ⟨c.C, 31, none⟩)), some (.slice none 0 0), some (.slice none 0 0), some (.pointer (some ⟨c.C, 0, none⟩)), some (.pointer (some ⟨c.C, 0, none⟩)), some (.pointer (some ⟨c.C, 32, none⟩)), some (.slice none 0 0), some (.slice none 0 0), some (.pointer (some ⟨c.C, 0, none⟩)), some (.pointer (some ⟨c.C, 30, none⟩)), none, some (.pointer (some ⟨c.C, 0, none⟩)), some (.pointer (some ⟨c.C, 31, none⟩)), none, some (.pointer (some ⟨c.C, 0, none⟩)), some (.pointer (some ⟨c.C, 32, none⟩)), none] : List (Option Value)).getD k none) (fun i => ([some 13, some 14, some 15, some 16, some 17, some 18, some 19, some 20, some 21, some 22, some 23, some 24, some 25, some 26, some 27, none, some 28, some 29, none, some 30, some 31, none] : List (Option Nat)).getD i none) _ a := fun e he hb z t hz ht => by obtain ⟨y, h1, h2⟩ := haf e he hb; rw [h1 t ht, h2 z hz]
      have hst : St c K v (w.setCell ⟨c.C, 31, none⟩ (.slice none 0 0)) := by
        have := hGs.1.setC (v' := v) 31 (v.fresh) rfl rfl rfl rfl rfl rfl rfl
        rw [hfr] at this; exact this
      refine ⟨undef, w.setCell ⟨c.C, 31, none⟩ (.slice none 0 0), (), .inr ⟨by
      have hx := hP ⟨17, .data⟩ (by simp) rfl _ _ rfl rfl; have hy := hP ⟨7, .data⟩ (by simp) rfl _ _ rfl rfl; have hfree := hGs.1.hC.free 31; have hcc := hGs.1.hC.cell? 31; simp only [thrOf] at hcc; simp [execOp, hx, hy, go_sem, hfree, hcc], rfl⟩, ⟨hst, hGs.2.1.setCell hGs.1.lo.1 _, by simpa using hGs.2.2⟩, fun z hz => (by cases hz), fun _ _ _ h => h, fun _ _ _ _ => trivial⟩
    | 19, ho =>
      simp at ho; subst ho; refine ⟨rfl, rfl, ?_⟩; intro s w a hGs _ hF haf
      have hP : Pre (fun k => ([some (.pointer (some ⟨c.C, 0, none⟩)), some (.pointer (some ⟨c.C, 0, none⟩)), some (.pointer (some ⟨c.C, 0, none⟩)), some (.pointer (some ⟨c.C, 0, none⟩)), some (.pointer (some ⟨c.C, 0, none⟩)), some (.pointer (some ⟨c.C, 31, none⟩)), some (.slice none 0 0), some (.slice none 0 0), some (.pointer (some ⟨c.C, 0, none⟩)), some (.pointer (some ⟨c.C, 0, none⟩)), some (.pointer (some ⟨c.C, 32, none⟩)), some (.slice none 0 0), some (.slice none 0 0), some (.pointer (some ⟨c.C, 0, none⟩)), some (.pointer (some ⟨c.C, 30, none⟩)), none, some (.pointer (some ⟨c.C, 0, none⟩)), some (.pointer (some ⟨c.C, 31, none⟩)), none, some (.pointer (some ⟨c.C, 0, none⟩)), some (.pointer (some ⟨c.C, 32, none⟩)), none] : List (Option Value)).getD k none) (fun i => ([some 13, some 14, some 15, some 16, some 17, some 18, some 19, some 20, some 21, some 22, some 23, some 24, some 25, some 26, some 27, none, some 28, some 29, none, some 30, some 31, none] : List (Option Nat)).getD i none) _ a := fun e he hb z t hz ht => by obtain ⟨y, h1, h2⟩ := haf e he hb; rw [h1 t ht, h2 z hz]
      refine ⟨.pointer (some ⟨c.C, 0, none⟩), w, (), .inl (by
      have hx := hP ⟨2, .data⟩ (by simp) rfl _ _ rfl rfl; simp [execOp, hx, go_sem]), hGs, fun z hz => Option.some.inj hz, fun _ _ _ h => h, fun _ _ _ _ => trivial⟩
    | 20, ho =>
      simp at ho; subst ho; refine ⟨rfl, rfl, ?_⟩; intro s w a hGs _ hF haf
      have hP : Pre (fun k => ([some (.pointer (some ⟨c.C, 0, none⟩)), some (.pointer (some ⟨c.C, 0, none⟩)), some (.pointer (some ⟨c.C, 0, none⟩)), some (.pointer (some ⟨c.C, 0, none⟩)), some (.pointer (some ⟨c.C, 0, none⟩)), some (.pointer (some ⟨c.C, 31, none⟩)), some (.slice none 0 0), some (.slice none 0 0), some (.pointer (some ⟨c.C, 0, none⟩)), some (.pointer (some ⟨c.C, 0, none⟩)), some (.pointer (some ⟨c.C, 32, none⟩)), some (.slice none 0 0), some (.slice none 0 0), some (.pointer (some ⟨c.C, 0, none⟩)), some (.pointer (some ⟨c.C, 30, none⟩)), none, some (.pointer (some ⟨c.C, 0, none⟩)), some (.pointer (some ⟨c.C, 31, none⟩)), none, some (.pointer (some ⟨c.C, 0, none⟩)), some (.pointer (some ⟨c.C, 32, none⟩)), none] : List (Option Value)).getD k none) (fun i => ([some 13, some 14, some 15, some 16, some 17, some 18, some 19, some 20, some 21, some 22, some 23, some 24, some 25, some 26, some 27, none, some 28, some 29, none, some 30, some 31, none] : List (Option Nat)).getD i none) _ a := fun e he hb z t hz ht => by obtain ⟨y, h1, h2⟩ := haf e he hb; rw [h1 t ht, h2 z hz]
      refine ⟨.pointer (some ⟨c.C, 32, none⟩), w, (), .inl (by
      have hx := hP ⟨19, .data⟩ (by simp) rfl _ _ rfl rfl; simp [execOp, hx, go_sem]), hGs, fun z hz => Option.some.inj hz, fun _ _ _ h => h, fun _ _ _ _ => trivial⟩
    | 21, ho =>
      simp at ho; subst ho; refine ⟨rfl, rfl, ?_⟩; intro s w a hGs _ hF haf
      have hP : Pre (fun k => ([some (.pointer (some ⟨c.C, 0, none⟩)), some (.pointer (some ⟨c.C, 0, none⟩)), some (.pointer (some ⟨c.C, 0, none⟩)), some (.pointer (some ⟨c.C, 0, none⟩)), some (.pointer (some ⟨c.C, 0, none⟩)), some (.pointer (some ⟨c.C, 31, none⟩)), some (.slice none 0 0), some (.slice none 0 0), some (.pointer (some ⟨c.C, 0, none⟩)), some (.pointer (some ⟨c.C, 0, none⟩)), some (.pointer (some ⟨c.C, 32, none⟩)), some (.slice none 0 0), some (.slice none 0 0), some (.pointer (some ⟨c.C, 0, none⟩)), some (.pointer (some ⟨c.C, 30, none⟩)), none, some (.pointer (some ⟨c.C, 0, none⟩)), some (.pointer (some ⟨c.C, 31, none⟩)), none, some (.pointer (some ⟨c.C, 0, none⟩)), some (.pointer (some ⟨c.C, 32, none⟩)), none] : List (Option Value)).getD k none) (fun i => ([some 13, some 14, some 15, some 16, some 17, some 18, some 19, some 20, some 21, some 22, some 23, some 24, some 25, some 26, some 27, none, some 28, some 29, none, some 30, some 31, none] : List (Option Nat)).getD i none) _ a := fun e he hb z t hz ht => by obtain ⟨y, h1, h2⟩ := haf e he hb; rw [h1 t ht, h2 z hz]
      have hst : St c K v (w.setCell ⟨c.C, 32, none⟩ (.slice none 0 0)) := by
        have := hGs.1.setC (v' := v) 32 (v.gained) rfl rfl rfl rfl rfl rfl rfl
        rw [hga] at this; exact this
      refine ⟨undef, w.setCell ⟨c.C, 32, none⟩ (.slice none 0 0), (), .inr ⟨by
      have hx := hP ⟨20, .data⟩ (by simp) rfl _ _ rfl rfl; have hy := hP ⟨12, .data⟩ (by simp) rfl _ _ rfl rfl; have hfree := hGs.1.hC.free 32; have hcc := hGs.1.hC.cell? 32; simp only [thrOf] at hcc; simp [execOp, hx, hy, go_sem, hfree, hcc], rfl⟩, ⟨hst, hGs.2.1.setCell hGs.1.lo.1 _, by simpa using hGs.2.2⟩, fun z hz => (by cases hz), fun _ _ _ h => h, fun _ _ _ _ => trivial⟩
    | k + 22, ho => simp at ho
  case hend =>
    intro a w1b s6 hg6 hF hU
    obtain ⟨hs1b, hb1b, hz1b⟩ := hg6
    clear hU
    obtain ⟨zs, hzs, hact⟩ := hF.form (by simp) (by decide)
    replace hzs : zs.length = 19 := by simpa using hzs
    obtain ⟨z13, zs0, e0, hzs0⟩ := list_cons (n := 18) hzs
    obtain ⟨z14, zs1, e1, hzs1⟩ := list_cons (n := 17) hzs0
    obtain ⟨z15, zs2, e2, hzs2⟩ := list_cons (n := 16) hzs1
    obtain ⟨z16, zs3, e3, hzs3⟩ := list_cons (n := 15) hzs2
    obtain ⟨z17, zs4, e4, hzs4⟩ := list_cons (n := 14) hzs3
    obtain ⟨z18, zs5, e5, hzs5⟩ := list_cons (n := 13) hzs4
    obtain ⟨z19, zs6, e6, hzs6⟩ := list_cons (n := 12) hzs5
    obtain ⟨z20, zs7, e7, hzs7⟩ := list_cons (n := 11) hzs6
    obtain ⟨z21, zs8, e8, hzs8⟩ := list_cons (n := 10) hzs7
    obtain ⟨z22, zs9, e9, hzs9⟩ := list_cons (n := 9) hzs8
    obtain ⟨z23, zs10, e10, hzs10⟩ := list_cons (n := 8) hzs9
    obtain ⟨z24, zs11, e11, hzs11⟩ := list_cons (n := 7) hzs10
    obtain ⟨z25, zs12, e12, hzs12⟩ := list_cons (n := 6) hzs11
    obtain ⟨z26, zs13, e13, hzs13⟩ := list_cons (n := 5) hzs12
    obtain ⟨z27, zs14, e14, hzs14⟩ := list_cons (n := 4) hzs13
    obtain ⟨z28, zs15, e15, hzs15⟩ := list_cons (n := 3) hzs14
    obtain ⟨z29, zs16, e16, hzs16⟩ := list_cons (n := 2) hzs15
    obtain ⟨z30, zs17, e17, hzs17⟩ := list_cons (n := 1) hzs16
    obtain ⟨z31, zs18, e18, hzs18⟩ := list_cons (n := 0) hzs17
    obtain rfl := List.eq_nil_of_length_eq_zero hzs18
    subst e18 e17 e16 e15 e14 e13 e12 e11 e10 e9 e8 e7 e6 e5 e4 e3 e2 e1 e0
    subst hact
    simp only [List.take_succ_cons, List.take_zero, List.drop_succ_cons, List.drop_zero, List.cons_append, List.nil_append]
    clear hs1 hb1 hz1
    obtain ⟨row, crow, hkrow⟩ := HMA.out.row hs1b.sep hWN
    have c2 : w1b.cell? ⟨c.C, 2, none⟩ = some (.func (.func 20) #[] #[.pointer (some ⟨c.pa, 0, none⟩)]) := hs1b.hC.cell? 2
    obtain ⟨l, hle⟩ : ∃ l, l = A W := ⟨_, rfl⟩
    rw [← hle] at hkrow hAl
    have hrd := readS_calls c K v w1b hs1b hz1b W 1000 (100 + W) l row 0 hwk (by omega) hAl hkrow (succ_calls c K v w1b hs1b gA cA W 0 row hva hWN crow)
    go_upto_region 3 with (go_at_call 24; refine Calls.mono hrd ?_; rintro e w2 ⟨x, rfl, hb2, hs2⟩)
    clear hrd
    have hz2 : c.base ≤ w2.heap.size := by have := hb2.size; omega
    have hb02 := hb1b.trans hb2
    have hk2 : upd K 1000 ⟨3, 1, l.length, x, ints l⟩ 1000 = some ⟨3, 1, l.length, x, ints l⟩ := upd_same _ _ _
    have HLN' : Hid (∀ x ∈ l, x < c.N) := by rw [hle]; exact HLN.out
    go_upto_region 5 with (go_at_call 25; refine Calls.mono (junctions_calls c _ _ w2 hs2 1000 x l hk2 hAl HLN'.out) ?_; rintro e w3 ⟨rfl, rfl⟩)
    have c1 : w3.cell? ⟨c.C, 1, none⟩ = some (.slice (some ⟨gp, 0, none⟩) c.N cp) := by rw [← hpl]; exact hs2.hC.cell? 1
    have cpW : w3.cell? ⟨gp, W, none⟩ = some (.int .i32 0) := by
      have := hs2.sep.cell (k := 0) ((upd_other _ _ (by omega)).trans e0) (plRow_get (plJ []) hWN)
      rw [hplW] at this
      exact this
    go_upto_region 17 with fail
    have hR2 : Rw c (upd K 1000 ⟨3, 1, l.length, x, ints l⟩) { v with work := ((0 + 1 + l.length : Nat) : Int) } D [] (fun _ => []) (fun _ => []) L 92 0 := (HR.out.keep (fun k hk => upd_other _ _ (by omega))).mono (Nat.le_refl _) _
    have HND' : Hid l.Nodup := by rw [hle]; exact HND.out
    have H0W' : Hid (0 ∈ l) := by rw [hle]; exact H0W.out
    have hlv := leadsToV_calls c _ D _ w3 l _ _ L 92 0 1000 x hs2 hR2 hz2 hN2 hk2 (by omega) hAl HLN'.out HND'.out H0W'.out
    have HR2 : Hid (Rw c (upd K 1000 ⟨3, 1, l.length, x, ints l⟩) { v with work := ((0 + 1 + l.length : Nat) : Int) } D [] (fun _ => []) (fun _ => []) L 92 0) := hR2
    have HPW : Hid (W ∉ l) := by rw [hle]; intro hx; have := HLT.out W hx; omega
    clear hR2
    go_upto_region 18 with (go_at_call 29; refine Calls.mono hlv ?_; rintro e w4 ⟨rfl, hb4, n4, y4, xs4, hs4⟩)
    clear hlv
    have hz4 : c.base ≤ w4.heap.size := by have := hb4.size; omega
    have hjn := join_calls c _ D _ w4 [] l _ _ L 92 0 W 1000 x hs4 (HR2.out.keep (fun k hk => upd_other _ _ (by omega))) hz4 hW1 hWN (by simp) (by simp) (by omega) ((upd_other _ _ (by omega)).trans hk2) (by omega) (by omega) hAl HLN'.out HPW.out (pls_nd HND'.out)
    go_upto_region 19 with (go_at_call 30; refine Calls.mono hjn ?_; rintro e w5 ⟨rfl, hb5, K5, v5, lo, hperm, hs5, hw5, hR5⟩)
    clear hjn
    have hz5 : c.base ≤ w5.heap.size := by have := hb5.size; omega
    have hI5 := (Inv.nil A c.N d).join (u := W) (by simp) hW1 hWN HDW.out HLT.out (lo := lo) (by rw [← hle]; exact hperm)
    have hsp := spread_calls c K5 D v5 w5 A W d _ _ _ bud hs5 hR5 hz5 HG.out hI5 (by rw [hw5, ← hle]) (by simpa using hL0) (by simpa using hL1)
    have hb05 := (hb02.trans hb4).trans hb5
    clear hs4 hs5 hR5 hI5 hperm c1 cpW e0
    by_cases hbt : bud < ((workTo A (preds A c.N) d W c.N : Nat) : Int)
    · have hsp' : Calls Yba.prog 31 #[.pointer (some ⟨c.C, 0, none⟩), .int .i64 bud] w5 fun e w' => e = .returned (.bool false) ∧ SpPost c D A W d bud w5 e w' := by
        refine Calls.mono hsp ?_
        intro e w' hP
        refine ⟨?_, hP⟩
        obtain ⟨_, _, _, _, _, _, _, _, _, _, _, _, _, ⟨h1, _⟩ | ⟨_, h2, _⟩⟩ := hP
        · exact h1
        · exact absurd hbt (Int.not_lt.2 h2)
      clear hsp
      go_upto_region 20 with (go_at_call 31; refine Calls.mono hsp' ?_; rintro e w6 ⟨rfl, hP⟩)
      obtain ⟨K6, v6, D6, J6, O6, I6, L6, B6, m6, q1, q2, q3, q4, _⟩ := hP
      have f28 := q2.hC.free 28
      have c28 : w6.cell? ⟨c.C, 28, none⟩ = some (.int .u8 v6.st) := q2.hC.cell? 28
      have hst : St c K6 { v6 with st := 0 } (w6.setCell ⟨c.C, 28, none⟩ (.int .u8 0)) := q2.setC 28 _ rfl rfl rfl rfl rfl rfl rfl
      have hbl := (hb05.trans q1).setCell (p := ⟨c.C, 28, none⟩) q2.lo.1 (.int .u8 0)
      clear hsp'
      go_wp2_with fail
      go_end0
      exact ⟨rfl, K6, v6, D6, J6, O6, I6, L6, B6, m6, hbl, q3, q4, .inl ⟨hbt, hst⟩⟩
    · have hsp' : Calls Yba.prog 31 #[.pointer (some ⟨c.C, 0, none⟩), .int .i64 bud] w5 fun e w' => e = .returned (.bool true) ∧ SpPost c D A W d bud w5 e w' := by
        refine Calls.mono hsp ?_
        intro e w' hP
        refine ⟨?_, hP⟩
        obtain ⟨_, _, _, _, _, _, _, _, _, _, _, _, _, ⟨_, h1⟩ | ⟨h2, _⟩⟩ := hP
        · exact absurd h1 hbt
        · exact h2
      clear hsp
      go_wp2_with (go_at_call 31; refine Calls.mono hsp' ?_; rintro e w6 ⟨rfl, hP⟩)
      go_end0
      refine ⟨rfl, ?_⟩
      obtain ⟨K6, v6, D6, J6, O6, I6, L6, B6, m6, q1, q2, q3, q4, ⟨h1, _⟩ | ⟨_, p1, p2, p3, p4, p5⟩⟩ := hP
      · cases h1
      · exact ⟨K6, v6, D6, J6, O6, I6, L6, B6, m6, hb05.trans q1, q3, q4, .inr ⟨p1, q2, p2, p3, p4, p5⟩⟩
end Go.Proofs.Ybulkuoc
