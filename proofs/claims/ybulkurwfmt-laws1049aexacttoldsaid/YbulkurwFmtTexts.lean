/- fmt.Sprintf at this law's four formats: some text comes back. -/
import Derived.Test.YbulkurwFmtFacts
import Derived.WalkKit
import Derived.WalkSpells
import Derived.WalkLawsBesides
import Derived.Deep.Light
namespace Go.Proofs.YbulkurwFmt
open Go.RowKit Go.Extern.Stop Go.Stop Go.Extern
attribute [local go_sem] call11 fguard fmtEq fmtEqr fmtT fmtTr fmtD fmtDr fmtX fmtXr act24_118 isString24 str24 act22_120 op22_120 str22 act3_100 op3_100 str3 act9_115 op9_115 str9

/-- fmt.Sprintf of a uint64 under x: some text; one draw. -/
theorem rows_hex (F : Interp) (b : Nat) (v : Int) (w : World) (hF : F.answers w.tape) (hc : w.cell? ⟨b, 0, none⟩ = some (.iface 22 (.int .u64 v))) {R : Value → World → Prop} (h : ∀ t, R (.string t) w.drew) :
    Rows Ybaf.prog FmtCalls.turnsRow (FmtCalls.save 0 0 (.slice (some ⟨b, 0, none⟩) 1 1) ⟨#[35, 120, 37, 48, 49, 54, 120]⟩ [] [(0, 120, false)]) w R := by
  have hF' := answers_open hF
  apply rows_value nextTurns
  case hr => go_simp; exact ⟨rfl, rfl⟩
  case h => exact h _

/-- .. of an int under d. -/
theorem rows_dec (F : Interp) (b : Nat) (v : Int) (w : World) (hF : F.answers w.tape) (hc : w.cell? ⟨b, 0, none⟩ = some (.iface 3 (.int .i64 v))) {R : Value → World → Prop} (h : ∀ t, R (.string t) w.drew) :
    Rows Ybaf.prog FmtCalls.turnsRow (FmtCalls.save 0 0 (.slice (some ⟨b, 0, none⟩) 1 1) ⟨#[116, 37, 100]⟩ [] [(0, 100, false)]) w R := by
  have hF' := answers_open hF
  apply rows_value nextTurns
  case hr => go_simp; exact ⟨rfl, rfl⟩
  case h => exact h _

/-- .. of three strings under s. -/
theorem rows_def (F : Interp) (b : Nat) (x y z : ByteArray) (w : World) (hF : F.answers w.tape) (h0 : w.cell? ⟨b, 0, none⟩ = some (.iface 9 (.string x))) (h1 : w.cell? ⟨b, 1, none⟩ = some (.iface 9 (.string y))) (h2 : w.cell? ⟨b, 2, none⟩ = some (.iface 9 (.string z)))
    {R : Value → World → Prop} (h : ∀ t, R (.string t) w.drew) :
    Rows Ybaf.prog FmtCalls.turnsRow (FmtCalls.save 0 0 (.slice (some ⟨b, 0, none⟩) 3 3) ⟨#[40, 100, 101, 102, 105, 110, 101, 45, 102, 117, 110, 32, 37, 115, 32, 40, 41, 32, 37, 115, 32, 37, 115, 41]⟩ [] [(0, 115, false), (1, 115, false), (2, 115, false)]) w R := by
  have hF' := answers_open hF
  apply rows_value nextTurns
  case hr => go_simp; exact ⟨rfl, rfl⟩
  case h => exact h _

set_option maxHeartbeats 800000 in
theorem string_calls (F : Interp) (nm : ByteArray) (v : Int) (fx : Bool) (w : World) (hF : F.answers w.tape) :
    Calls Ybaf.prog 27 #[.agg #[.string nm, .int .u64 v, .bool fx]] w fun e w' => ∃ t, e = .returned (.string t) ∧ Below w.heap.size w w' := by
  cases fx with
  | false =>
    go_enter Ybaf.func27, Ybaf.ntmps27
    go_wp2
    go_ret
    exact ⟨_, rfl, (Below.refl _ _).alloc (Nat.le_refl _) _⟩
  | true =>
    go_enter Ybaf.func27, Ybaf.ntmps27
    go_wp2
    refine rows_hex F _ v _ (by exact hF) (by go_simp) ?_
    intro t
    go_wp2
    go_ret
    exact ⟨_, rfl, (((Below.refl _ _).alloc (Nat.le_refl _) _).alloc (by simp) _).drew⟩

/-- .. of two Words under v: their String() is called. -/
theorem rows_eq (F : Interp) (b : Nat) (n1 n2 : ByteArray) (v1 v2 : Int) (f1 f2 : Bool) (w : World) (hF : F.answers w.tape) (hb : b < w.heap.size) (h0 : w.cell? ⟨b, 0, none⟩ = some (.iface 24 (.agg #[.string n1, .int .u64 v1, .bool f1]))) (h1 : w.cell? ⟨b, 1, none⟩ = some (.iface 24 (.agg #[.string n2, .int .u64 v2, .bool f2])))
    {R : Value → World → Prop} (h : ∀ t w', Below w.heap.size w w' → R (.string t) w') :
    Rows Ybaf.prog FmtCalls.turnsRow (FmtCalls.save 0 0 (.slice (some ⟨b, 0, none⟩) 2 2) ⟨#[40, 61, 32, 37, 118, 32, 37, 118, 41]⟩ [] [(0, 118, false), (1, 118, false)]) w R := by
  have hF' := answers_open hF
  apply rows_call nextTurns
  case hr => go_simp; exact ⟨⟨rfl, rfl, rfl⟩, rfl⟩
  case hi => exact invokeString24 _ _
  case hc =>
    refine (string_calls F n1 v1 f1 _ (by exact hF)).mono ?_
    rintro e w3 ⟨t, rfl, hb3⟩
    have hF3 := answers_open (show F.answers w3.tape by rw [hb3.tape]; exact hF)
    have h13 : w3.cell? ⟨b, 1, none⟩ = some (.iface 24 (.agg #[.string n2, .int .u64 v2, .bool f2])) := (hb3.cell (by exact hb)).trans h1
    have h03 : w3.cell? ⟨b, 0, none⟩ = some (.iface 24 (.agg #[.string n1, .int .u64 v1, .bool f1])) := (hb3.cell (by exact hb)).trans h0
    apply rows_call nextReturned
    case hr => go_simp; exact ⟨⟨rfl, rfl, rfl⟩, rfl⟩
    case hi => exact invokeString24 _ _
    case hc =>
      refine (string_calls F n2 v2 f2 _ (by rw [hb3.tape]; exact hF)).mono ?_
      rintro e w4 ⟨t4, rfl, hb4⟩
      have hb5 : Below w.heap.size w w4 := hb3.trans (hb4.mono hb3.size)
      have hF4 := answers_open (show F.answers w4.tape by rw [hb5.tape]; exact hF)
      have h14 : w4.cell? ⟨b, 1, none⟩ = some (.iface 24 (.agg #[.string n2, .int .u64 v2, .bool f2])) := (hb5.cell (by exact hb)).trans h1
      have h04 : w4.cell? ⟨b, 0, none⟩ = some (.iface 24 (.agg #[.string n1, .int .u64 v1, .bool f1])) := (hb5.cell (by exact hb)).trans h0
      apply rows_value nextReturned
      case hr => go_simp; exact ⟨rfl, rfl⟩
      case h => exact h _ _ hb5.drew
end Go.Proofs.YbulkurwFmt
