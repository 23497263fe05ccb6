/- Plain: the k-th smallest by counting; the middle of a sorted list. -/
namespace Go.Proofs.Qxb6002396a

def srt (xs : List Int) : List Int := xs.mergeSort fun x y => decide (x ≤ y)
def lts (v : Int) (xs : List Int) : Nat := xs.countP fun x => decide (x < v)
def eqs (v : Int) (xs : List Int) : Nat := xs.countP fun x => decide (x = v)
def gts (v : Int) (xs : List Int) : Nat := xs.countP fun x => decide (v < x)

theorem srt_perm (xs : List Int) : (srt xs).Perm xs := List.mergeSort_perm _ _
theorem srt_length (xs : List Int) : (srt xs).length = xs.length := (srt_perm xs).length_eq
theorem srt_sorted (xs : List Int) : (srt xs).Pairwise (· ≤ ·) := by
  have h := List.pairwise_mergeSort (le := fun x y : Int => decide (x ≤ y)) (by intro a b c h1 h2; simp at *; omega) (by intro a b; simp; omega) xs
  show (xs.mergeSort fun x y => decide (x ≤ y)).Pairwise (· ≤ ·)
  rw [List.pairwise_iff_getElem] at h ⊢
  intro i j hi hj hij
  have h2 := h i j hi hj hij
  simpa using h2
theorem lts_srt (v : Int) (xs : List Int) : lts v (srt xs) = lts v xs := (srt_perm xs).countP_eq _
theorem eqs_srt (v : Int) (xs : List Int) : eqs v (srt xs) = eqs v xs := (srt_perm xs).countP_eq _
theorem gts_srt (v : Int) (xs : List Int) : gts v (srt xs) = gts v xs := (srt_perm xs).countP_eq _

theorem lts_zero (v : Int) (xs : List Int) (h : ∀ x ∈ xs, v ≤ x) : lts v xs = 0 := by
  unfold lts
  rw [List.countP_eq_zero]
  intro x hx
  have := h x hx
  simp; omega
theorem eqs_zero (v : Int) (xs : List Int) (h : ∀ x ∈ xs, v < x) : eqs v xs = 0 := by
  unfold eqs
  rw [List.countP_eq_zero]
  intro x hx
  have := h x hx
  simp; omega

theorem lts_cons (v a : Int) (xs : List Int) : lts v (a :: xs) = lts v xs + if a < v then 1 else 0 := by simp [lts, List.countP_cons]
theorem eqs_cons (v a : Int) (xs : List Int) : eqs v (a :: xs) = eqs v xs + if a = v then 1 else 0 := by simp [eqs, List.countP_cons]
theorem gts_cons (v a : Int) (xs : List Int) : gts v (a :: xs) = gts v xs + if v < a then 1 else 0 := by simp [gts, List.countP_cons]

/-- In a sorted list: v stands at place k just where k lies among v's ranks. -/
theorem rank_iff (v : Int) : ∀ (S : List Int) (k : Nat), S.Pairwise (· ≤ ·) → ((lts v S ≤ k ∧ k < lts v S + eqs v S) ↔ S[k]? = some v)
  | [], k, _ => by simp [lts, eqs]
  | a :: S, k, h => by
    rw [List.pairwise_cons] at h
    obtain ⟨h1, h2⟩ := h
    rw [lts_cons, eqs_cons]
    by_cases c1 : a < v
    · rw [if_pos c1, if_neg (by omega)]
      cases k with
      | zero => simp; omega
      | succ k =>
        have ih := rank_iff v S k h2
        rw [List.getElem?_cons_succ, ← ih]
        omega
    · by_cases c2 : a = v
      · have z := lts_zero v S (fun x hx => by have := h1 x hx; omega)
        rw [if_neg c1, if_pos c2, z]
        cases k with
        | zero => simp [c2]
        | succ k =>
          have ih := rank_iff v S k h2
          rw [z] at ih
          rw [List.getElem?_cons_succ, ← ih]
          omega
      · have z := lts_zero v S (fun x hx => by have := h1 x hx; omega)
        have z2 := eqs_zero v S (fun x hx => by have := h1 x hx; omega)
        rw [if_neg c1, if_neg c2, z, z2]
        constructor
        · omega
        · intro hk
          exfalso
          rcases List.mem_cons.1 (List.mem_of_getElem? hk) with e | e
          · omega
          · have := h1 v e; omega

theorem lts_le : ∀ (S : List Int) (m : Nat) (g b : Int), S.Pairwise (· ≤ ·) → S[m]? = some b → g ≤ b → lts g S ≤ m
  | [], m, g, b, _, h, _ => by simp at h
  | a :: S, m, g, b, hp, h, hb => by
    rw [List.pairwise_cons] at hp
    cases m with
    | zero =>
      simp at h; subst h
      have := lts_zero g (a :: S) (fun x hx => by
        rcases List.mem_cons.1 hx with e | e
        · omega
        · have := hp.1 x e
          omega)
      omega
    | succ m =>
      rw [List.getElem?_cons_succ] at h
      have ih := lts_le S m g b hp.2 h hb
      rw [lts_cons]
      split <;> omega

theorem gts_le : ∀ (S : List Int) (m : Nat) (g b : Int), S.Pairwise (· ≤ ·) → S[m]? = some b → b ≤ g → gts g S + (m + 1) ≤ S.length
  | [], m, g, b, _, h, _ => by simp at h
  | a :: S, m, g, b, hp, h, hb => by
    rw [List.pairwise_cons] at hp
    rw [gts_cons]
    cases m with
    | zero =>
      simp at h; subst h
      rw [if_neg (by omega)]
      have : gts g S ≤ S.length := List.countP_le_length
      simp; omega
    | succ m =>
      rw [List.getElem?_cons_succ] at h
      have ih := gts_le S m g b hp.2 h hb
      have : a ≤ b := hp.1 b (List.mem_of_getElem? h)
      rw [if_neg (by omega)]
      simp; omega

theorem lts_snoc (v a : Int) (xs : List Int) : lts v (xs ++ [a]) = lts v xs + if a < v then 1 else 0 := by simp [lts, List.countP_append]
theorem eqs_snoc (v a : Int) (xs : List Int) : eqs v (xs ++ [a]) = eqs v xs + if a = v then 1 else 0 := by simp [eqs, List.countP_append]
theorem gts_snoc (v a : Int) (xs : List Int) : gts v (xs ++ [a]) = gts v xs + if v < a then 1 else 0 := by simp [gts, List.countP_append]
theorem lts_len (v : Int) (xs : List Int) : lts v xs ≤ xs.length := List.countP_le_length
theorem eqs_len (v : Int) (xs : List Int) : eqs v xs ≤ xs.length := List.countP_le_length
theorem gts_len (v : Int) (xs : List Int) : gts v xs ≤ xs.length := List.countP_le_length

theorem take_snoc (xs : List Int) (k : Nat) (h : k < xs.length) : xs.take (k + 1) = xs.take k ++ [xs.getD k 0] := by
  rw [List.take_succ_eq_append_getElem h]; simp [List.getD, List.getElem?_eq_getElem h]

/-- Whether place k lies among v's ranks in xs. -/
def Ranks (xs : List Int) (k : Nat) (v : Int) : Prop := lts v xs ≤ k ∧ k < lts v xs + eqs v xs

theorem ranks_iff (xs : List Int) (k : Nat) (v : Int) : Ranks xs k v ↔ (srt xs)[k]? = some v := by
  unfold Ranks
  rw [← lts_srt, ← eqs_srt]
  exact rank_iff v (srt xs) k (srt_sorted xs)

theorem srt_at (xs : List Int) (k : Nat) (h : k < xs.length) : (srt xs)[k]? = some ((srt xs).getD k 0) := by
  rw [List.getElem?_eq_getElem (by rw [srt_length]; exact h)]
  simp [List.getD, List.getElem?_eq_getElem (show k < (srt xs).length by rw [srt_length]; exact h)]

theorem ranks_val (xs : List Int) (k : Nat) (v : Int) (hk : k < xs.length) (h : Ranks xs k v) : v = (srt xs).getD k 0 := by
  rw [ranks_iff, srt_at xs k hk] at h
  exact (Option.some.inj h).symm

/-- Some element stands at rank k. -/
theorem ranks_some (xs : List Int) (k : Nat) (hk : k < xs.length) : ∃ i, i < xs.length ∧ Ranks xs k (xs.getD i 0) := by
  have h := srt_at xs k hk
  have hm : (srt xs).getD k 0 ∈ xs := (srt_perm xs).mem_iff.1 (List.mem_of_getElem? h)
  obtain ⟨i, hi, he⟩ := List.getElem_of_mem hm
  refine ⟨i, hi, ?_⟩
  rw [ranks_iff, show xs.getD i 0 = (srt xs).getD k 0 by rw [← he]; simp [List.getD, List.getElem?_eq_getElem hi]]
  exact h

theorem srt_mem (xs : List Int) (k : Nat) (h : k < xs.length) : (srt xs).getD k 0 ∈ xs := (srt_perm xs).mem_iff.1 (List.mem_of_getElem? (srt_at xs k h))

theorem srt_mono (xs : List Int) (i j : Nat) (hij : i ≤ j) (hj : j < xs.length) : (srt xs).getD i 0 ≤ (srt xs).getD j 0 := by
  rcases Nat.eq_or_lt_of_le hij with rfl | hlt
  · omega
  · have hs := srt_sorted xs
    have hj' : j < (srt xs).length := by rw [srt_length]; exact hj
    have := (List.pairwise_iff_getElem.1 hs) i j (by omega) hj' hlt
    simpa [List.getD, List.getElem?_eq_getElem hj', List.getElem?_eq_getElem (show i < (srt xs).length by omega)] using this

/-- The middle: of an odd count the middle one; of an even count the mean of the two, cut towards 0. -/
def mid (xs : List Int) : Int :=
  if xs.length % 2 = 0 then ((srt xs).getD (xs.length / 2 - 1) 0 + (srt xs).getD (xs.length / 2) 0).tdiv 2 else (srt xs).getD (xs.length / 2) 0

theorem tdiv2_between (a b : Int) (h : a ≤ b) : a ≤ (a + b).tdiv 2 ∧ (a + b).tdiv 2 ≤ b := by
  rcases Int.le_total 0 (a + b) with h0 | h0
  · rw [Int.tdiv_eq_ediv_of_nonneg h0]; omega
  · have : (a + b).tdiv 2 = - ((-(a + b)) / 2) := by
      rw [← Int.tdiv_eq_ediv_of_nonneg (by omega), Int.neg_tdiv]; omega
    rw [this]; omega

theorem mid_below (xs : List Int) (hp : 0 < xs.length) : lts (mid xs) xs ≤ xs.length / 2 := by
  rw [← lts_srt]
  have hb := srt_at xs (xs.length / 2) (by omega)
  refine lts_le (srt xs) (xs.length / 2) _ _ (srt_sorted xs) hb ?_
  unfold mid
  split
  · exact (tdiv2_between _ _ (srt_mono xs _ _ (by omega) (by omega))).2
  · omega

theorem mid_above (xs : List Int) (hp : 0 < xs.length) : gts (mid xs) xs ≤ xs.length / 2 := by
  rw [← gts_srt]
  unfold mid
  split
  · have hb := srt_at xs (xs.length / 2 - 1) (by omega)
    have := gts_le (srt xs) (xs.length / 2 - 1) _ _ (srt_sorted xs) hb (tdiv2_between _ _ (srt_mono xs (xs.length / 2 - 1) (xs.length / 2) (by omega) (by omega))).1
    rw [srt_length] at this
    omega
  · have hb := srt_at xs (xs.length / 2) (by omega)
    have := gts_le (srt xs) (xs.length / 2) _ _ (srt_sorted xs) hb (Int.le_refl _)
    rw [srt_length] at this
    omega
end Go.Proofs.Qxb6002396a
