/- The store's lock. -/
import Derived.Test.YbulkuvcApply
import Derived.Test.YbulkuvcLocks
import Derived.Conc.RwLoneW
namespace Go.Proofs.Ybulkuvc
open Go.RowKit Go.Maps Go.WideMaps
/-- The store while its lock is held for writing. -/
def StoL (w : World) (S L gb : Nat) : Prop := Blk w S #[.int .i32 0, .int .u32 0, .int .i32 1, .int .u32 0, .int .u32 0, .int .u32 0, .int .i32 (-1073741824), .int .i32 0, .nilIface, .pointer (some ⟨L, 0, none⟩), .map (some gb)] 47

theorem lock_free (b off : Nat) (x2 x3 : Value) (w : World) (c0 : w.cell? ⟨b, off, none⟩ = some (.int .i32 0)) (c2 : w.cell? ⟨b, off + 2, none⟩ = some x2) (c3 : w.cell? ⟨b, off + 3, none⟩ = some x3)
    (hc : w.cell? ⟨b, off + 4, none⟩ = some (.int .i32 0)) (z0 : w.frozen? ⟨b, off, none⟩ = false) (hz : w.frozen? ⟨b, off + 4, none⟩ = false) :
    Calls Yba.prog 13 #[.pointer (some ⟨b, off, none⟩)] w fun e w' => e = .returned (.tuple #[]) ∧ w' = (w.setCell ⟨b, off, none⟩ (.int .i32 1)).setCell ⟨b, off + 4, none⟩ (.int .i32 (-1073741824)) :=
  RwLone.wlock_free Yba.rwWLib b off x2 x3 w c0 c2 c3 hc z0 hz
theorem unlock_held (b off : Nat) (x2 x3 : Value) (w : World) (c0 : w.cell? ⟨b, off, none⟩ = some (.int .i32 1)) (c2 : w.cell? ⟨b, off + 2, none⟩ = some x2) (c3 : w.cell? ⟨b, off + 3, none⟩ = some x3)
    (hc : w.cell? ⟨b, off + 4, none⟩ = some (.int .i32 (-1073741824))) (z0 : w.frozen? ⟨b, off, none⟩ = false) (hz : w.frozen? ⟨b, off + 4, none⟩ = false) :
    Calls Yba.prog 14 #[.pointer (some ⟨b, off, none⟩)] w fun e w' => e = .returned (.tuple #[]) ∧ w' = (w.setCell ⟨b, off + 4, none⟩ (.int .i32 0)).setCell ⟨b, off, none⟩ (.int .i32 0) :=
  RwLone.wunlock_held Yba.rwWLib b off x2 x3 w c0 c2 c3 hc z0 hz

theorem Sto.locked {w : World} {S L gb : Nat} (hS : Sto w S L gb) : StoL ((w.setCell ⟨S, 2, none⟩ (.int .i32 1)).setCell ⟨S, 2 + 4, none⟩ (.int .i32 (-1073741824))) S L gb := by
  have h1 := Blk.set hS 2 (.int .i32 1)
  have h2 := h1.set (2 + 4) (.int .i32 (-1073741824))
  exact h2
theorem StoL.unlocked {w : World} {S L gb : Nat} (hS : StoL w S L gb) : Sto ((w.setCell ⟨S, 2 + 4, none⟩ (.int .i32 0)).setCell ⟨S, 2, none⟩ (.int .i32 0)) S L gb := by
  have h1 := Blk.set hS (2 + 4) (.int .i32 0)
  have h2 := h1.set 2 (.int .i32 0)
  exact h2
theorem lock_calls (S L gb : Nat) (w : World) (hS : Sto w S L gb) : Calls Yba.prog 13 #[.pointer (some ⟨S, 2, none⟩)] w fun e w' => e = .returned (.tuple #[]) ∧ StoL w' S L gb ∧ Fr w w' (fun k => k = S) := by
  refine (lock_free S 2 (.int .u32 0) (.int .u32 0) w (Blk.cell? hS 2) (Blk.cell? hS 4) (Blk.cell? hS 5) (Blk.cell? hS 6) (Blk.free hS 2) (Blk.free hS 6)).mono ?_
  rintro e w' ⟨rfl, rfl⟩
  have f1 : Fr w (w.setCell ⟨S, 2, none⟩ (.int .i32 1)) (fun k => k = S) := Fr.setCell (Fr.refl w _) (fun _ => Eq.refl S) _
  exact ⟨rfl, hS.locked, Fr.setCell f1 (a := ⟨S, 2 + 4, none⟩) (fun _ => Eq.refl S) _⟩
theorem unlock_calls (S L gb : Nat) (w : World) (hS : StoL w S L gb) : Calls Yba.prog 14 #[.pointer (some ⟨S, 2, none⟩)] w fun e w' => e = .returned (.tuple #[]) ∧ Sto w' S L gb ∧ Fr w w' (fun k => k = S) := by
  refine (unlock_held S 2 (.int .u32 0) (.int .u32 0) w (Blk.cell? hS 2) (Blk.cell? hS 4) (Blk.cell? hS 5) (Blk.cell? hS 6) (Blk.free hS 2) (Blk.free hS 6)).mono ?_
  rintro e w' ⟨rfl, rfl⟩
  have f1 : Fr w (w.setCell ⟨S, 2 + 4, none⟩ (.int .i32 0)) (fun k => k = S) := Fr.setCell (Fr.refl w _) (fun _ => Eq.refl S) _
  exact ⟨rfl, hS.unlocked, Fr.setCell f1 (a := ⟨S, 2, none⟩) (fun _ => Eq.refl S) _⟩
end Go.Proofs.Ybulkuvc
