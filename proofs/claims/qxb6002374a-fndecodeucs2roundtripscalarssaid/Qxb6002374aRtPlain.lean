/- Plain: scalars written in UTF-16 little endian, and read back. -/
import Derived.Test.Qxb6002374aAccPlain
namespace Go.Proofs.Qxb6002374a
open Go

/-- The units of a scalar. -/
def unitsOf (r : Int) : List Int := if r < 65536 then [r] else [55296 + (r - 65536) / 1024, 56320 + (r - 65536) % 1024]
/-- The two bytes of a unit. -/
def byts (u : Int) : List Int := [u % 256, u / 256]
def encU (us : List Int) : List Int := us.flatMap byts
def uTo (rs : List Int) (k : Nat) : List Int := (rs.take k).flatMap unitsOf
def eTo (rs : List Int) (k : Nat) : List Int := encU (uTo rs k)
def wTo (rs : List Int) (k : Nat) : List Int := (rs.take k).flatMap enc8

theorem take_snoc (rs : List Int) (k : Nat) (h : k < rs.length) : rs.take (k + 1) = rs.take k ++ [rs.getD k 0] := by
  rw [List.take_succ_eq_append_getElem h]; simp [List.getD, List.getElem?_eq_getElem h]

theorem uTo_succ (rs : List Int) (k : Nat) (h : k < rs.length) : uTo rs (k + 1) = uTo rs k ++ unitsOf (rs.getD k 0) := by
  simp [uTo, take_snoc rs k h]
theorem eTo_succ (rs : List Int) (k : Nat) (h : k < rs.length) : eTo rs (k + 1) = eTo rs k ++ encU (unitsOf (rs.getD k 0)) := by
  simp [eTo, uTo_succ rs k h, encU]
theorem wTo_succ (rs : List Int) (k : Nat) (h : k < rs.length) : wTo rs (k + 1) = wTo rs k ++ enc8 (rs.getD k 0) := by
  simp [wTo, take_snoc rs k h]

theorem unitsOf_len (r : Int) : (unitsOf r).length ≤ 2 := by unfold unitsOf; split <;> simp
theorem uTo_len (rs : List Int) : ∀ k, (uTo rs k).length ≤ 2 * k
  | 0 => by simp [uTo]
  | k + 1 => by
    have ih := uTo_len rs k
    by_cases h : k < rs.length
    · have := unitsOf_len (rs.getD k 0)
      rw [uTo_succ rs k h, List.length_append]; omega
    · have e : rs.take (k + 1) = rs.take k := by rw [List.take_of_length_le (by omega), List.take_of_length_le (by omega)]
      unfold uTo at ih ⊢
      rw [e]; omega
theorem encU_len (us : List Int) : (encU us).length = 2 * us.length := by
  induction us with
  | nil => rfl
  | cons u us ih => simp [encU, byts] at ih ⊢; omega
theorem eTo_len (rs : List Int) (k : Nat) : (eTo rs k).length = 2 * (uTo rs k).length := encU_len _
theorem wTo_len (rs : List Int) : ∀ k, (wTo rs k).length ≤ 4 * k
  | 0 => by simp [wTo]
  | k + 1 => by
    have ih := wTo_len rs k
    by_cases h : k < rs.length
    · have := enc8_length (rs.getD k 0)
      rw [wTo_succ rs k h, List.length_append]; omega
    · have e : rs.take (k + 1) = rs.take k := by rw [List.take_of_length_le (by omega), List.take_of_length_le (by omega)]
      unfold wTo at ih ⊢
      rw [e]; omega

theorem unit_cons (a b : Int) (l : List Int) (k : Nat) : unit (a :: b :: l) (k + 1) = unit l k := by
  unfold unit
  rw [show 2 * (k + 1) = (2 * k) + 1 + 1 by omega]
  simp

/-- The units of the bytes of the units are the units. -/
theorem unit_encU : ∀ (us rest : List Int) (k : Nat), k < us.length → unit (encU us ++ rest) k = us.getD k 0
  | [], _, k, h => by simp at h
  | u :: us, rest, 0, _ => by
    show unit (u % 256 :: u / 256 :: (encU us ++ rest)) 0 = _
    unfold unit
    simp
    omega
  | u :: us, rest, k + 1, h => by
    have ih := unit_encU us rest k (by simpa using h)
    show unit (u % 256 :: u / 256 :: (encU us ++ rest)) (k + 1) = _
    rw [unit_cons, ih]
    simp

theorem unit_end : ∀ (us rest : List Int), unit (encU us ++ (0 :: 0 :: rest)) us.length = 0
  | [], rest => by simp [encU, unit]
  | u :: us, rest => by
    have ih := unit_end us rest
    show unit (u % 256 :: u / 256 :: (encU us ++ (0 :: 0 :: rest))) (us.length + 1) = 0
    rw [unit_cons, ih]

theorem unitsTo_encU (us rest : List Int) : unitsTo (encU us ++ rest) us.length = us := by
  apply List.ext_getElem
  · rw [unitsTo_length]
  · intro j h1 h2
    rw [unitsTo_length] at h1
    have := unit_encU us rest j h1
    simp [unitsTo, this, List.getD, List.getElem?_eq_getElem h1]

/-- A nonzero scalar value. -/
def Good (r : Int) : Prop := 0 < r ∧ r ≤ 1114111 ∧ (r < 55296 ∨ 57343 < r)

theorem good_scal (r : Int) (h : Good r) : Scal r := by unfold Good at h; unfold Scal; omega

theorem unitsOf_range (r : Int) (h : Good r) : ∀ u ∈ unitsOf r, 0 < u ∧ u ≤ 65535 := by
  unfold Good at h
  intro u hu
  unfold unitsOf at hu
  split at hu
  · simp at hu; omega
  · simp at hu; omega

theorem dec16_units (rs : List Int) : (∀ r ∈ rs, Good r) → dec16 (rs.flatMap unitsOf) = rs := by
  induction rs with
  | nil => intro _; rfl
  | cons r rs ih =>
    intro h
    have hg := h r (by simp)
    have ih' := ih (fun x hx => h x (List.mem_cons_of_mem _ hx))
    unfold Good at hg
    rw [List.flatMap_cons]
    by_cases hb : r < 65536
    · have e : unitsOf r = [r] := by unfold unitsOf; rw [if_pos hb]
      rw [e, List.singleton_append, dec16_bmp r _ (by omega), ih']
    · have e : unitsOf r = [55296 + (r - 65536) / 1024, 56320 + (r - 65536) % 1024] := by unfold unitsOf; rw [if_neg hb]
      rw [e]
      show dec16 ((55296 + (r - 65536) / 1024) :: (56320 + (r - 65536) % 1024) :: rs.flatMap unitsOf) = _
      rw [dec16_pair _ _ _ (by omega) (by omega) (by omega) (by omega), ih']
      congr 1
      unfold pair
      omega

theorem units_pos (rs : List Int) (h : ∀ r ∈ rs, Good r) : ∀ u ∈ rs.flatMap unitsOf, 0 < u ∧ u ≤ 65535 := by
  intro u hu
  obtain ⟨r, hr, hu⟩ := List.mem_flatMap.1 hu
  exact unitsOf_range r (h r hr) u hu

/-- The whole: bytes, a zero unit, any tail: the first zero unit; the text. -/
theorem round_trip (rs tl : List Int) (h : ∀ r ∈ rs, Good r) :
    let bs := encU (rs.flatMap unitsOf) ++ (0 :: 0 :: tl)
    let z := (rs.flatMap unitsOf).length
    2 * z + 1 < bs.length ∧ unit bs z = 0 ∧ (∀ j, j < z → unit bs j ≠ 0) ∧ runesBytes (dec16 (unitsTo bs z)) = bytesStr (rs.flatMap enc8) := by
  intro bs z
  refine ⟨?_, unit_end _ tl, fun j hj => ?_, ?_⟩
  · show 2 * (rs.flatMap unitsOf).length + 1 < (encU (rs.flatMap unitsOf) ++ (0 :: 0 :: tl)).length
    rw [List.length_append, encU_len]; simp
  · show unit (encU (rs.flatMap unitsOf) ++ (0 :: 0 :: tl)) j ≠ 0
    rw [unit_encU _ _ j hj]
    have hm : (rs.flatMap unitsOf).getD j 0 ∈ rs.flatMap unitsOf := by
      have e : (rs.flatMap unitsOf).getD j 0 = (rs.flatMap unitsOf)[j] := by simp [List.getD, List.getElem?_eq_getElem hj]
      rw [e]; exact List.getElem_mem hj
    have := units_pos rs h _ hm
    omega
  · show runesBytes (dec16 (unitsTo (encU (rs.flatMap unitsOf) ++ (0 :: 0 :: tl)) (rs.flatMap unitsOf).length)) = _
    rw [unitsTo_encU, dec16_units rs h, runes_bytes rs (fun r hr => good_scal r (h r hr))]

theorem byt_append (a b : List Int) (ha : ∀ x ∈ a, 0 ≤ x ∧ x ≤ 255) (hb : ∀ x ∈ b, 0 ≤ x ∧ x ≤ 255) : Byt (a ++ b) := by
  intro j
  rcases Nat.lt_or_ge j (a ++ b).length with hj | hj
  · have e : (a ++ b).getD j 0 = (a ++ b)[j] := by simp only [List.getD, List.getElem?_eq_getElem hj]; rfl
    rw [e]
    rcases List.mem_append.1 (List.getElem_mem hj) with h | h
    · exact ha _ h
    · exact hb _ h
  · have e : (a ++ b).getD j 0 = 0 := by simp only [List.getD, List.getElem?_eq_none hj]; rfl
    rw [e]; omega

theorem encU_byt (us : List Int) (h : ∀ u ∈ us, 0 < u ∧ u ≤ 65535) : ∀ x ∈ encU us, 0 ≤ x ∧ x ≤ 255 := by
  intro x hx
  obtain ⟨u, hu, hx⟩ := List.mem_flatMap.1 hx
  have := h u hu
  simp [byts] at hx
  omega

theorem u32_and1023 (v : Int) (h0 : 0 ≤ v) (h1 : v < 4294967296) : bits .and .u32 v 1023 = v % 1024 := by
  obtain ⟨A, rfl⟩ := Int.eq_ofNat_of_zero_le h0
  have := u32_and_nat A 1023 (by omega) (by omega)
  rw [nat_mask10] at this
  rw [show ((1023 : Int)) = ((1023 : Nat) : Int) by rfl, this]
  omega

theorem step_small (rs : List Int) (q : Nat) (r : Int) (h : q < rs.length) (hr : r = rs.getD q 0) (hb : r < 65536) :
    (uTo rs (q + 1)).length = (uTo rs q).length + 1 ∧ eTo rs (q + 1) = eTo rs q ++ [r % 256, r / 256] ∧ wTo rs (q + 1) = wTo rs q ++ enc8 r := by
  have e : unitsOf r = [r] := by unfold unitsOf; rw [if_pos hb]
  rw [uTo_succ rs q h, eTo_succ rs q h, wTo_succ rs q h, ← hr, e]
  simp [encU, byts]

theorem step_great (rs : List Int) (q : Nat) (r : Int) (h : q < rs.length) (hr : r = rs.getD q 0) (hb : ¬ r < 65536) :
    (uTo rs (q + 1)).length = (uTo rs q).length + 2 ∧
    eTo rs (q + 1) = eTo rs q ++ [(55296 + (r - 65536) / 1024) % 256, (55296 + (r - 65536) / 1024) / 256, (56320 + (r - 65536) % 1024) % 256, (56320 + (r - 65536) % 1024) / 256] ∧ wTo rs (q + 1) = wTo rs q ++ enc8 r := by
  have e : unitsOf r = [55296 + (r - 65536) / 1024, 56320 + (r - 65536) % 1024] := by unfold unitsOf; rw [if_neg hb]
  rw [uTo_succ rs q h, eTo_succ rs q h, wTo_succ rs q h, ← hr, e]
  simp [encU, byts]

/-- What the walk has gathered behind both loops. -/
theorem rt_whole (rs tl : List Int) (q j : Nat) (hq : ¬ q < rs.length) (hj : ¬ j < tl.length) (h : ∀ r ∈ rs, Good r) (ht : ∀ x ∈ tl, 0 ≤ x ∧ x ≤ 255) :
    let bs := eTo rs q ++ [0, 0] ++ tl.take j
    2 * (uTo rs q).length + 1 < bs.length ∧ unit bs (uTo rs q).length = 0 ∧ (∀ i, i < (uTo rs q).length → unit bs i ≠ 0) ∧
      runesBytes (dec16 (unitsTo bs (uTo rs q).length)) = bytesStr (wTo rs q) ∧ Byt bs := by
  intro bs
  have e1 : rs.take q = rs := List.take_of_length_le (by omega)
  have e2 : tl.take j = tl := List.take_of_length_le (by omega)
  have e3 : bs = encU (rs.flatMap unitsOf) ++ (0 :: 0 :: tl) := by
    show eTo rs q ++ [0, 0] ++ tl.take j = _
    rw [e2]; unfold eTo uTo; rw [e1]; simp
  have e4 : uTo rs q = rs.flatMap unitsOf := by unfold uTo; rw [e1]
  have e5 : wTo rs q = rs.flatMap enc8 := by unfold wTo; rw [e1]
  have R := round_trip rs tl h
  rw [e3, e4, e5]
  refine ⟨R.1, R.2.1, R.2.2.1, R.2.2.2, byt_append _ _ (encU_byt _ (units_pos rs h)) ?_⟩
  intro x hx
  rcases List.mem_cons.1 hx with rfl | hx
  · omega
  · rcases List.mem_cons.1 hx with rfl | hx
    · omega
    · exact ht x hx

theorem take_snoc_app (E tl : List Int) (j : Nat) (x : Int) (h : j < tl.length) (hx : x = tl.getD j 0) : E ++ tl.take (j + 1) = E ++ tl.take j ++ [x] := by
  rw [take_snoc tl j h, hx, List.append_assoc]
end Go.Proofs.Qxb6002374a
