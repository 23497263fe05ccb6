/- One outcome as numbers and a text; a row of them in memory, three cells each. -/
import Derived.WalkKit
import Derived.WalkSpells
import Derived.WalkLawsBesides
import Derived.Below
namespace Go.Proofs.Qxb6001780a
open Go Go.RowKit

structure Rec where
  lat : Int
  byt : Int
  err : ByteArray

def rec0 : Rec := ⟨0, 0, ByteArray.empty⟩

/-- The records lie from ⟨b, off⟩ on. -/
def RowAt (w : World) (b off : Nat) (os : List Rec) : Prop :=
  ∀ j, j < os.length → w.cell? ⟨b, off + j * 3, none⟩ = some (.int .i64 (os.getD j rec0).lat) ∧ w.cell? ⟨b, off + j * 3 + 1, none⟩ = some (.int .i64 (os.getD j rec0).byt) ∧ w.cell? ⟨b, off + j * 3 + 2, none⟩ = some (.string (os.getD j rec0).err)

/-- The three cells of a record. -/
def cells3 (o : Rec) : List Value := [.int .i64 o.lat, .int .i64 o.byt, .string o.err]
def flat (os : List Rec) : List Value := os.flatMap cells3

theorem flat_length (os : List Rec) : (flat os).length = os.length * 3 := by
  induction os with
  | nil => rfl
  | cons o os ih => simp [flat, cells3] at ih ⊢; omega

theorem flat_at : ∀ (os : List Rec) (j : Nat), j < os.length → (flat os)[j * 3]? = some (.int .i64 (os.getD j rec0).lat) ∧ (flat os)[j * 3 + 1]? = some (.int .i64 (os.getD j rec0).byt) ∧ (flat os)[j * 3 + 2]? = some (.string (os.getD j rec0).err)
  | [], j, h => by simp at h
  | o :: os, 0, _ => by simp [flat, cells3]
  | o :: os, j + 1, h => by
    have ih := flat_at os j (by simpa using h)
    have e : ∀ n, (flat (o :: os))[n + 3]? = (flat os)[n]? := fun n => by simp [flat, cells3]
    rw [show (j + 1) * 3 = j * 3 + 3 by omega, show j * 3 + 3 + 1 = (j * 3 + 1) + 3 by omega, show j * 3 + 3 + 2 = (j * 3 + 2) + 3 by omega, e, e, e]
    simpa using ih
end Go.Proofs.Qxb6001780a
