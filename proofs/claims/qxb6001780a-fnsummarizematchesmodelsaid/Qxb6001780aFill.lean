/- Rows of the call's own that are filled record by record. -/
import Derived.Test.Qxb6001780aBytes
namespace Go.Proofs.Qxb6001780a
open Go Go.RowKit

theorem take_set3 (xs : List Value) (n : Nat) (L : List Value) (a b c : Value) (hl : n + 3 ≤ xs.length) (ht : xs.take n = L) :
    (((xs.set n a).set (n + 1) b).set (n + 2) c).take (n + 3) = L ++ [a, b, c] := by
  subst ht
  obtain ⟨p, q, rfl, hp⟩ : ∃ p q, xs = p ++ q ∧ p.length = n := ⟨xs.take n, xs.drop n, (List.take_append_drop n xs).symm, by simp; omega⟩
  subst hp
  match q, hl with
  | [], h => simp at h; omega
  | [_], h => simp at h
  | [_, _], h => simp at h
  | x :: y :: z :: q, _ =>
    have e1 : (p ++ x :: y :: z :: q).set p.length a = p ++ a :: y :: z :: q := by simp
    have e2 : (p ++ a :: y :: z :: q).set (p.length + 1) b = p ++ a :: b :: z :: q := by simp
    have e3 : (p ++ a :: b :: z :: q).set (p.length + 2) c = p ++ a :: b :: c :: q := by simp
    rw [e1, e2, e3, List.take_length_add_append]
    simp

theorem take_snoc (os : List Rec) (k : Nat) (h : k < os.length) : os.take (k + 1) = os.take k ++ [os.getD k rec0] := by
  rw [List.take_succ_eq_append_getElem h]; simp [List.getD, List.getElem?_eq_getElem h]

theorem flat_succ (os : List Rec) (k : Nat) (h : k < os.length) : flat (os.take (k + 1)) = flat (os.take k) ++ cells3 (os.getD k rec0) := by
  rw [take_snoc os k h]; simp [flat]

/-- A row of the call's own in which the first k records stand. -/
def Part (w : World) (B e g : Nat) (os : List Rec) (k : Nat) : Prop :=
  ∃ xs, w.ownsRow B e 3 (.slice (some ⟨g, 0, none⟩) os.length os.length) os.length xs ∧ xs.take (k * 3) = flat (os.take k)

theorem Part.len {w : World} {B e g : Nat} {os : List Rec} {k : Nat} (h : Part w B e g os k) : ∃ xs, w.ownsRow B e 3 (.slice (some ⟨g, 0, none⟩) os.length os.length) os.length xs ∧ xs.length = os.length * 3 := by
  obtain ⟨xs, h1, _⟩ := h
  exact ⟨xs, h1, h1.1⟩

/-- The three cells that are stored into are there, and not frozen. -/
theorem Part.cell {w : World} {B e g : Nat} {os : List Rec} {k : Nat} (h : Part w B e g os k) (i : Nat) (hi : i < os.length * 3) : (∃ v, w.cell? ⟨g, i, none⟩ = some v) ∧ w.frozen? ⟨g, i, none⟩ = false := by
  obtain ⟨xs, h1, _⟩ := h
  have hl := h1.1
  refine ⟨?_, h1.frozenAt i⟩
  rw [h1.cellAt i hi]
  exact ⟨_, List.getElem?_eq_getElem (by omega)⟩

theorem Part.step {w0 w : World} {B e g : Nat} {os : List Rec} {k : Nat} (h : Part w B e g os k) (hk : k < os.length) (hB : B ≤ g) (hb : Below B w0 w) {r : Rec} (hr : r = os.getD k rec0) :
    Part (((w.setCell ⟨g, k * 3, none⟩ (.int .i64 r.lat)).setCell ⟨g, k * 3 + 1, none⟩ (.int .i64 r.byt)).setCell ⟨g, k * 3 + 2, none⟩ (.string r.err)) B e g os (k + 1) ∧
    Below B w0 (((w.setCell ⟨g, k * 3, none⟩ (.int .i64 r.lat)).setCell ⟨g, k * 3 + 1, none⟩ (.int .i64 r.byt)).setCell ⟨g, k * 3 + 2, none⟩ (.string r.err)) := by
  obtain ⟨xs, h1, h2⟩ := h
  have hl := h1.1
  have s1 := (h1.stored (k * 3) (.int .i64 r.lat)).1
  have s2 := (s1.stored (k * 3 + 1) (.int .i64 r.byt)).1
  have s3 := (s2.stored (k * 3 + 2) (.string r.err)).1
  refine ⟨⟨_, s3, ?_⟩, ((hb.setCell hB _).setCell hB _).setCell hB _⟩
  rw [show (k + 1) * 3 = k * 3 + 3 by omega, take_set3 xs (k * 3) _ _ _ _ (by omega) h2, flat_succ os k hk, ← hr]
  rfl

theorem Part.row {w : World} {B e g : Nat} {os : List Rec} {k : Nat} (h : Part w B e g os k) (hk : os.length ≤ k) : RowAt w g 0 os := by
  obtain ⟨xs, h1, h2⟩ := h
  have hl := h1.1
  have e1 : xs = flat os := by
    rw [List.take_of_length_le (by omega), List.take_of_length_le hk] at h2
    exact h2
  subst e1
  intro j hj
  have f := flat_at os j hj
  rw [Nat.zero_add, h1.cellAt _ (by omega), h1.cellAt _ (by omega), h1.cellAt _ (by omega)]
  exact f

theorem Part.lt {w : World} {B e g : Nat} {os : List Rec} {k : Nat} (h : Part w B e g os k) : B ≤ g ∧ g < w.heap.size := by
  obtain ⟨xs, h1, _⟩ := h
  exact h1.lt g rfl

theorem RowAt.later {w w' : World} {b off B : Nat} {os : List Rec} (h : RowAt w b off os) (hb : Below B w w') (hlt : b < B) : RowAt w' b off os := by
  intro j hj
  obtain ⟨h1, h2, h3⟩ := h j hj
  rw [hb.cell (p := ⟨b, off + j * 3, none⟩) hlt, hb.cell (p := ⟨b, off + j * 3 + 1, none⟩) hlt, hb.cell (p := ⟨b, off + j * 3 + 2, none⟩) hlt]
  exact ⟨h1, h2, h3⟩
end Go.Proofs.Qxb6001780a
