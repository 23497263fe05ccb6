/- Plain: the 16-bit units of a list of bytes. -/
import Derived.Test.Qxb6002374aPlain
namespace Go.Proofs.Qxb6002374a

/-- The k-th unit, little endian. -/
def unit (bs : List Int) (k : Nat) : Int := bs.getD (2 * k) 0 + 256 * bs.getD (2 * k + 1) 0
/-- The first k units. -/
def unitsTo (bs : List Int) (k : Nat) : List Int := (List.range k).map (unit bs)

theorem unitsTo_length (bs : List Int) (k : Nat) : (unitsTo bs k).length = k := by simp [unitsTo]
theorem unitsTo_succ (bs : List Int) (k : Nat) : unitsTo bs (k + 1) = unitsTo bs k ++ [unit bs k] := by simp [unitsTo, List.range_succ]
theorem unitsTo_zero (bs : List Int) : unitsTo bs 0 = [] := rfl
theorem unitsTo_getD (bs : List Int) (k j : Nat) (h : j < k) : (unitsTo bs k).getD j 0 = unit bs j := by
  simp [unitsTo, List.getD, List.getElem?_map, List.getElem?_range h]

def Byt (bs : List Int) : Prop := ∀ j, 0 ≤ bs.getD j 0 ∧ bs.getD j 0 ≤ 255

theorem unit_range (bs : List Int) (h : Byt bs) (k : Nat) : 0 ≤ unit bs k ∧ unit bs k ≤ 65535 := by
  have h1 := h (2 * k)
  have h2 := h (2 * k + 1)
  unfold unit
  omega

theorem unitsTo_range (bs : List Int) (h : Byt bs) (k j : Nat) : 0 ≤ (unitsTo bs k).getD j 0 ∧ (unitsTo bs k).getD j 0 ≤ 65535 := by
  by_cases hj : j < k
  · rw [unitsTo_getD bs k j hj]; exact unit_range bs h j
  · have : (unitsTo bs k)[j]? = none := by rw [List.getElem?_eq_none]; rw [unitsTo_length]; omega
    simp [List.getD, this]
end Go.Proofs.Qxb6002374a
