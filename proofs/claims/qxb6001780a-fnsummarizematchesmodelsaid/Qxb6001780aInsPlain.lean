/- Plain: insertion into a sorted list; a sorted rearrangement is the sorted list. -/
namespace Go.Proofs.Qxb6001780a

def srt (xs : List Int) : List Int := xs.mergeSort fun x y => decide (x ≤ y)
theorem srt_perm (xs : List Int) : (srt xs).Perm xs := List.mergeSort_perm _ _
theorem srt_length (xs : List Int) : (srt xs).length = xs.length := (srt_perm xs).length_eq
theorem srt_sorted (xs : List Int) : (srt xs).Pairwise (· ≤ ·) := by
  have h := List.pairwise_mergeSort (le := fun x y : Int => decide (x ≤ y)) (by intro a b c h1 h2; simp at *; omega) (by intro a b; simp; omega) xs
  show (xs.mergeSort fun x y => decide (x ≤ y)).Pairwise (· ≤ ·)
  rw [List.pairwise_iff_getElem] at h ⊢
  intro i j hi hj hij
  have h2 := h i j hi hj hij
  simpa using h2
theorem srt_of (xs S : List Int) (hs : S.Pairwise (· ≤ ·)) (hp : S.Perm xs) : S = srt xs :=
  List.Perm.eq_of_pairwise (le := (· ≤ ·)) (fun a b _ _ h1 h2 => by omega) hs (srt_sorted xs) (hp.trans (srt_perm xs).symm)

/-- The row zs inside a round of the insertion of v into S: before j as S, behind j shifted by one, all of those greater than v. -/
def Ins (zs S : List Int) (i j : Nat) (v : Int) : Prop :=
  S.length = i ∧ j ≤ i ∧ (∀ p, p < j → zs.getD p 0 = S.getD p 0) ∧ (∀ p, j ≤ p → p < i → zs.getD (p + 1) 0 = S.getD p 0 ∧ v < S.getD p 0)

theorem getD_set (zs : List Int) (j p : Nat) (x : Int) (hj : j < zs.length) : (zs.set j x).getD p 0 = if p = j then x else zs.getD p 0 := by
  by_cases h : p = j
  · subst h; simp [List.getD, hj]
  · rw [if_neg h]
    simp only [List.getD]
    rw [List.getElem?_set_ne (by omega)]

theorem ins_start (zs S : List Int) (i : Nat) (v : Int) (hS : S.length = i) (ht : zs.take i = S) : Ins zs S i i v := by
  refine ⟨hS, Nat.le_refl _, fun p hp => ?_, fun p h1 h2 => by omega⟩
  subst ht
  simp only [List.getD, List.getElem?_take_of_lt hp]

theorem ins_step (zs S : List Int) (i j : Nat) (v : Int) (h : Ins zs S i j v) (h0 : 0 < j) (hi : i < zs.length) (hv : v < zs.getD (j - 1) 0) : Ins (zs.set j (zs.getD (j - 1) 0)) S i (j - 1) v := by
  obtain ⟨hS, hj, h1, h2⟩ := h
  refine ⟨hS, by omega, fun p hp => ?_, fun p hp1 hp2 => ?_⟩
  · rw [getD_set _ _ _ _ (by omega), if_neg (by omega)]
    exact h1 p (by omega)
  · rw [getD_set _ _ _ _ (by omega)]
    by_cases e : p + 1 = j
    · rw [if_pos e]
      have := h1 (j - 1) (by omega)
      rw [show p = j - 1 by omega, ← this]
      exact ⟨rfl, hv⟩
    · rw [if_neg e]
      exact h2 p (by omega) hp2

theorem pairwise_getD (S : List Int) (h : S.Pairwise (· ≤ ·)) (a b : Nat) (hab : a ≤ b) (hb : b < S.length) : S.getD a 0 ≤ S.getD b 0 := by
  rcases Nat.eq_or_lt_of_le hab with rfl | hlt
  · omega
  · have := (List.pairwise_iff_getElem.1 h) a b (by omega) hb hlt
    simpa [List.getD, List.getElem?_eq_getElem hb, List.getElem?_eq_getElem (show a < S.length by omega)] using this

theorem ins_end (zs S : List Int) (i j : Nat) (v : Int) (h : Ins zs S i j v) (hi : i < zs.length) (hv : j = 0 ∨ zs.getD (j - 1) 0 ≤ v) (hs : S.Pairwise (· ≤ ·)) :
    ∃ T, (zs.set j v).take (i + 1) = T ∧ T.length = i + 1 ∧ T.Pairwise (· ≤ ·) ∧ T.Perm (S ++ [v]) := by
  obtain ⟨hS, hj, h1, h2⟩ := h
  refine ⟨S.take j ++ v :: S.drop j, ?_, by simp; omega, ?_, ?_⟩
  · apply List.ext_getElem?
    intro p
    by_cases hp : p < i + 1
    · have hz : p < (zs.set j v).length := by simp; omega
      have e0 : ((zs.set j v).take (i + 1))[p]? = some ((zs.set j v).getD p 0) := by
        rw [List.getElem?_take_of_lt hp]
        simp only [List.getD, List.getElem?_eq_getElem hz]; rfl
      rw [e0, getD_set _ _ _ _ (by omega)]
      by_cases c : p < j
      · rw [if_neg (by omega), h1 p c, List.getElem?_append_left (by simp; omega), List.getElem?_take_of_lt c]
        simp only [List.getD, List.getElem?_eq_getElem (show p < S.length by omega)]; rfl
      · rw [List.getElem?_append_right (by simp; omega)]
        have hl : (S.take j).length = j := by simp; omega
        rw [hl]
        by_cases c2 : p = j
        · rw [if_pos c2, c2]; simp
        · rw [if_neg c2]
          obtain ⟨q, rfl⟩ : ∃ q, p = q + 1 := ⟨p - 1, by omega⟩
          have := (h2 q (by omega) (by omega)).1
          rw [this, show q + 1 - j = (q - j) + 1 by omega, List.getElem?_cons_succ, List.getElem?_drop, show j + (q - j) = q by omega]
          simp only [List.getD, List.getElem?_eq_getElem (show q < S.length by omega)]; rfl
    · rw [List.getElem?_eq_none (by simp; omega), List.getElem?_eq_none (by simp; omega)]
  · rw [List.pairwise_append]
    refine ⟨hs.sublist (List.take_sublist _ _), ?_, ?_⟩
    · rw [List.pairwise_cons]
      refine ⟨fun x hx => ?_, hs.sublist (List.drop_sublist _ _)⟩
      obtain ⟨q, hq, rfl⟩ := List.getElem_of_mem hx
      simp at hq
      have := (h2 (j + q) (by omega) (by omega)).2
      simp only [List.getElem_drop]
      simp only [List.getD, List.getElem?_eq_getElem (show j + q < S.length by omega)] at this
      simp at this; omega
    · intro x hx y hy
      obtain ⟨q, hq, rfl⟩ := List.getElem_of_mem hx
      simp at hq
      have ex : (S.take j)[q]'(by simp; omega) = S.getD q 0 := by
        simp only [List.getElem_take, List.getD, List.getElem?_eq_getElem (show q < S.length by omega)]; rfl
      have hle : S.getD q 0 ≤ S.getD (j - 1) 0 := pairwise_getD S hs q (j - 1) (by omega) (by omega)
      have hjv : S.getD (j - 1) 0 ≤ v := by
        rcases hv with h | h
        · omega
        · rw [← h1 (j - 1) (by omega)]; exact h
      rcases List.mem_cons.1 hy with rfl | hy
      · rw [ex]; omega
      · obtain ⟨r, hr, rfl⟩ := List.getElem_of_mem hy
        simp at hr
        have ey : (S.drop j)[r]'(by simp; omega) = S.getD (j + r) 0 := by
          simp only [List.getElem_drop, List.getD, List.getElem?_eq_getElem (show j + r < S.length by omega)]; rfl
        have := (h2 (j + r) (by omega) (by omega)).2
        rw [ex, ey]; omega
  · have e : S = S.take j ++ S.drop j := (List.take_append_drop j S).symm
    have p1 : (S.take j ++ v :: S.drop j).Perm (v :: (S.take j ++ S.drop j)) := List.perm_middle
    rw [← e] at p1
    exact p1.trans (List.perm_append_singleton v S).symm
end Go.Proofs.Qxb6001780a
