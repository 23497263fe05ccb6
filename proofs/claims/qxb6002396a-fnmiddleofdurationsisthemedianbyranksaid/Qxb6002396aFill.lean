/- A row of numbers that is filled cell by cell (a copy by a loop): plain laws on the list, and on the row owned. -/
import Derived.WalkKit
import Derived.Below
namespace Go.Proofs.Qxb6002396a
open Go Go.RowKit

/-- The first k of bs, then zeros up to its length. -/
def fillTo (bs : List Int) (k : Nat) : List Int := bs.take k ++ List.replicate (bs.length - k) 0

theorem fillTo_length (bs : List Int) (k : Nat) (h : k ≤ bs.length) : (fillTo bs k).length = bs.length := by
  simp [fillTo]; omega
theorem fillTo_zero (bs : List Int) : fillTo bs 0 = List.replicate bs.length 0 := by simp [fillTo]
theorem fillTo_end (bs : List Int) (k : Nat) (h : bs.length ≤ k) : fillTo bs k = bs := by
  simp [fillTo, List.take_of_length_le h, Nat.sub_eq_zero_of_le h]
theorem fillTo_set (bs : List Int) (k : Nat) (h : k < bs.length) : (fillTo bs k).set k (bs.getD k 0) = fillTo bs (k + 1) := by
  apply List.ext_getElem?
  intro j
  rw [List.getElem?_set]
  unfold fillTo
  by_cases hj : k = j
  · subst hj
    have hl : k < (bs.take k ++ List.replicate (bs.length - k) 0).length := by simp; omega
    rw [if_pos rfl, if_pos hl, List.getElem?_append_left (by simp; omega), List.getElem?_take_of_lt (by omega)]
    simp [List.getD, List.getElem?_eq_getElem h]
  · rw [if_neg hj]
    by_cases hlt : j < k
    · rw [List.getElem?_append_left (by simp; omega), List.getElem?_append_left (by simp; omega), List.getElem?_take_of_lt hlt, List.getElem?_take_of_lt (by omega)]
    · rw [List.getElem?_append_right (by simp; omega), List.getElem?_append_right (by simp; omega)]
      simp only [List.length_take, List.getElem?_replicate]
      congr 1
      simp
      omega
theorem fillTo_set_map {α : Type} (f : Int → α) (bs : List Int) (k : Nat) (h : k < bs.length) : ((fillTo bs k).map f).set k (f (bs.getD k 0)) = (fillTo bs (k + 1)).map f := by
  rw [← List.map_set, fillTo_set bs k h]

variable {w wr : World} {B e : Nat} {kd : IntKind} {bs : List Int} {g k : Nat}

/-- The made row is the filled row at no cell. -/
theorem made_fill (h : w.ownsRow B e 1 (.slice (some ⟨g, 0, none⟩) bs.length bs.length) bs.length (madeCells (Value.int kd 0).cells (bs.length * 1)).toList) :
    w.ownsRow B e 1 (.slice (some ⟨g, 0, none⟩) bs.length bs.length) bs.length ((fillTo bs 0).map (Value.int kd)) := by
  have e1 : (madeCells (Value.int kd 0).cells (bs.length * 1)).toList = (fillTo bs 0).map (Value.int kd) := by
    rw [Nat.mul_one, fillTo_zero, List.map_replicate]
    exact toList_madeCells_one _ _
  rwa [e1] at h

/-- The cell that is stored into: it is there, and not frozen. -/
theorem fill_cell (hk : k < bs.length) (h : wr.ownsRow B e 1 (.slice (some ⟨g, 0, none⟩) bs.length bs.length) bs.length ((fillTo bs k).map (Value.int kd))) :
    ∃ v, wr.cell? ⟨g, k, none⟩ = some v := by
  have h1 := h.cellAt k (by omega)
  rw [h1]
  have hl : k < ((fillTo bs k).map (Value.int kd)).length := by rw [List.length_map, fillTo_length bs k (by omega)]; exact hk
  exact ⟨_, List.getElem?_eq_getElem hl⟩

theorem fill_step (hB : B ≤ g) (hk : k < bs.length) (h : wr.ownsRow B e 1 (.slice (some ⟨g, 0, none⟩) bs.length bs.length) bs.length ((fillTo bs k).map (Value.int kd))) (hb : Below B w wr) :
    (wr.setCell ⟨g, k, none⟩ (.int kd (bs.getD k 0))).ownsRow B e 1 (.slice (some ⟨g, 0, none⟩) bs.length bs.length) bs.length ((fillTo bs (k + 1)).map (Value.int kd)) ∧ Below B w (wr.setCell ⟨g, k, none⟩ (.int kd (bs.getD k 0))) := by
  have h1 := (h.stored k (.int kd (bs.getD k 0))).1
  rw [fillTo_set_map _ bs k hk] at h1
  exact ⟨h1, hb.setCell hB _⟩
end Go.Proofs.Qxb6002396a
