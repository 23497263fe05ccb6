/- The clones once more, in one form for nil, empty and filled slices. -/
import Derived.Test.Qxb6002374aClone
import Derived.Test.Qxb6002374aAccWalk
namespace Go.Proofs.Qxb6002374a
open Go.RowKit

/-- The numbers bs lie at the head of a block (or there are none). -/
def Held (k : IntKind) (w : World) (a : Option Addr) (bs : List Int) : Prop :=
  bs.length = 0 ∨ ∃ g, a = some ⟨g, 0, none⟩ ∧ g < w.heap.size ∧ ∀ j, j < bs.length → w.cell? ⟨g, j, none⟩ = some (.int k (bs.getD j 0))

theorem Held.later {k : IntKind} {w w' : World} {a : Option Addr} {bs : List Int} (h : Held k w a bs) (hb : Below w.heap.size w w') : Held k w' a bs := by
  rcases h with h | ⟨g, rfl, hg, hc⟩
  · exact .inl h
  · have hs := hb.size
    exact .inr ⟨g, rfl, by omega, fun j hj => by rw [hb.cell (p := ⟨g, j, none⟩) hg]; exact hc j hj⟩

/-- A slice that came in. -/
def InRow (k : IntKind) (w : World) (a : Option Addr) (cap : Nat) (bs : List Int) : Prop :=
  (a = none ∧ cap = 0 ∧ bs = []) ∨ ∃ x, a = some x ∧ ∀ j, j < bs.length → w.cell? (x.add j) = some (.int k (bs.getD j 0))

theorem InRow.later {k : IntKind} {w w' : World} {a : Option Addr} {cap : Nat} {bs : List Int} (h : InRow k w a cap bs) (hb : Below w.heap.size w w') : InRow k w' a cap bs := by
  rcases h with h | ⟨x, rfl, hc⟩
  · exact .inl h
  · refine .inr ⟨x, rfl, fun j hj => ?_⟩
    rw [hb.cell (World.block_lt_of_cell? w _ (hc j hj))]
    exact hc j hj

theorem InRow.at {k : IntKind} {w : World} {a : Option Addr} {cap : Nat} {bs : List Int} (h : InRow k w a cap bs) (hp : 0 < bs.length) :
    ∃ b off, a = some ⟨b, off, none⟩ ∧ ∀ j, j < bs.length → w.cell? ⟨b, off + j, none⟩ = some (.int k (bs.getD j 0)) := by
  rcases h with ⟨_, _, rfl⟩ | ⟨x, rfl, hc⟩
  · simp at hp
  · obtain ⟨b, off, rfl, hc2⟩ := ints_at hc hp
    exact ⟨b, off, rfl, hc2⟩

theorem cloneB_all (bs : List Int) (a : Option Addr) (cap : Nat) (w : World) (h : InRow .u8 w a cap bs) (hn : bs.length ≤ 2097152) :
    Calls Try.prog 8 #[.slice a bs.length cap] w fun e w' => ∃ a' cap', e = .returned (.slice a' bs.length cap') ∧ Held .u8 w' a' bs ∧ Below w.heap.size w w' := by
  rcases h with ⟨rfl, rfl, rfl⟩ | ⟨x, rfl, hc⟩
  · refine (cloneB_nil w).mono fun e w' ⟨he, hw⟩ => ?_
    subst he; subst hw
    exact ⟨none, 0, rfl, .inl rfl, Below.refl _ _⟩
  · refine (cloneB_any bs x cap w hc hn).mono fun e w' ⟨he, hown, hb⟩ => ?_
    subst he
    exact ⟨_, _, rfl, .inr ⟨w.heap.size, rfl, (hown.lt _ rfl).2, fun j hj => own_cells hown j hj⟩, hb⟩

theorem cloneW_all (bs : List Int) (a : Option Addr) (cap : Nat) (w : World) (h : InRow .u32 w a cap bs) (hn : bs.length ≤ 2097152) :
    Calls Try.prog 12 #[.slice a bs.length cap] w fun e w' => ∃ a' cap', e = .returned (.slice a' bs.length cap') ∧ Held .u32 w' a' bs ∧ Below w.heap.size w w' := by
  by_cases hp : 0 < bs.length
  · obtain ⟨b, off, rfl, hc⟩ := h.at hp
    refine (cloneW_some bs b off cap w hp hc hn).mono fun e w' ⟨he, hown, hb⟩ => ?_
    subst he
    exact ⟨_, _, rfl, .inr ⟨w.heap.size, rfl, (hown.lt _ rfl).2, fun j hj => own_cells hown j hj⟩, hb⟩
  · obtain rfl : bs = [] := List.eq_nil_of_length_eq_zero (by omega)
    rcases h with ⟨rfl, rfl, _⟩ | ⟨x, rfl, hc⟩
    · refine (cloneW_nil w).mono fun e w' ⟨he, hw⟩ => ?_
      subst he; subst hw
      exact ⟨none, 0, rfl, .inl rfl, Below.refl _ _⟩
    · refine (cloneW_none x cap w).mono fun e w' ⟨he, hown, hb⟩ => ?_
      subst he
      exact ⟨_, _, rfl, .inl rfl, hb⟩
end Go.Proofs.Qxb6002374a
