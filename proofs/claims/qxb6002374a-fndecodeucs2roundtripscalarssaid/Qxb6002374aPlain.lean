/- Plain: UTF-16 units decoded to runes; the bits of the text as numbers. -/
import Derived.Laws.BitsAllLaws
import Derived.RowKit
namespace Go.Proofs.Qxb6002374a
open Go

/-- The rune of a pair of surrogates. -/
def pair (a b : Int) : Int := (a - 55296) * 1024 + (b - 56320) + 65536

/-- What utf16.Decode gives. -/
def dec16 : List Int → List Int
  | [] => []
  | [u] => [if u < 55296 ∨ 57344 ≤ u then u else 65533]
  | u :: v :: r => if u < 55296 ∨ 57344 ≤ u then u :: dec16 (v :: r) else if u < 56320 ∧ 56320 ≤ v ∧ v < 57344 then pair u v :: dec16 r else 65533 :: dec16 (v :: r)

theorem dec16_bmp (u : Int) (r : List Int) (h : u < 55296 ∨ 57344 ≤ u) : dec16 (u :: r) = u :: dec16 r := by
  cases r with
  | nil => simp only [dec16]; rw [if_pos h]
  | cons v r => simp only [dec16]; rw [if_pos h]

theorem dec16_pair (u v : Int) (r : List Int) (h1 : 55296 ≤ u) (h2 : u < 56320) (h3 : 56320 ≤ v) (h4 : v < 57344) : dec16 (u :: v :: r) = pair u v :: dec16 r := by
  simp only [dec16]; rw [if_neg (by omega), if_pos (by omega)]

theorem dec16_rep (u : Int) (r : List Int) (h1 : 55296 ≤ u) (h2 : u < 57344) (h : ∀ v r', r = v :: r' → ¬ (u < 56320 ∧ 56320 ≤ v ∧ v < 57344)) : dec16 (u :: r) = 65533 :: dec16 r := by
  cases r with
  | nil => simp only [dec16]; rw [if_neg (by omega)]
  | cons v r => simp only [dec16]; rw [if_neg (by omega), if_neg (h v r rfl)]

theorem drop_cons (us : List Int) (k : Nat) (h : k < us.length) : us.drop k = us.getD k 0 :: us.drop (k + 1) := by
  rw [List.drop_eq_getElem_cons h]; simp [List.getD, List.getElem?_eq_getElem h]

/-- One round: what stands at k is no surrogate. -/
theorem round_bmp (us : List Int) (k : Nat) (h : k < us.length) (hu : us.getD k 0 < 55296 ∨ 57344 ≤ us.getD k 0) : dec16 (us.drop k) = us.getD k 0 :: dec16 (us.drop (k + 1)) := by
  rw [drop_cons us k h, dec16_bmp _ _ hu]

theorem round_pair (us : List Int) (k : Nat) (h : k + 1 < us.length) (h1 : 55296 ≤ us.getD k 0) (h2 : us.getD k 0 < 56320) (h3 : 56320 ≤ us.getD (k + 1) 0) (h4 : us.getD (k + 1) 0 < 57344) :
    dec16 (us.drop k) = pair (us.getD k 0) (us.getD (k + 1) 0) :: dec16 (us.drop (k + 2)) := by
  rw [drop_cons us k (by omega), drop_cons us (k + 1) h, dec16_pair _ _ _ h1 h2 h3 h4]

theorem round_rep (us : List Int) (k : Nat) (h : k < us.length) (h1 : 55296 ≤ us.getD k 0) (h2 : us.getD k 0 < 57344) (hn : k + 1 < us.length → ¬ (us.getD k 0 < 56320 ∧ 56320 ≤ us.getD (k + 1) 0 ∧ us.getD (k + 1) 0 < 57344)) :
    dec16 (us.drop k) = 65533 :: dec16 (us.drop (k + 1)) := by
  rw [drop_cons us k h]
  refine dec16_rep _ _ h1 h2 fun v r' e => ?_
  by_cases hl : k + 1 < us.length
  · rw [drop_cons us (k + 1) hl] at e
    injection e with e1 e2
    rw [← e1]
    exact hn hl
  · rw [List.drop_eq_nil_of_le (by omega)] at e
    cases e

theorem i32_or_join (a b : Int) (i : Nat) (ha : 0 ≤ a) (hb : 0 ≤ b) (ha2 : a < 2147483648) (hb2 : b < 2 ^ i) (hi : i ≤ 31) (hm : a % 2 ^ i = 0) : bits .or .i32 a b = a + b := by
  obtain ⟨A, rfl⟩ := Int.eq_ofNat_of_zero_le ha
  obtain ⟨B, rfl⟩ := Int.eq_ofNat_of_zero_le hb
  have hB : B < 2 ^ i := by exact_mod_cast hb2
  have hM : A % 2 ^ i = 0 := by exact_mod_cast hm
  have hp : (2 : Nat) ^ i ≤ 2 ^ 31 := Nat.pow_le_pow_right (by omega) hi
  have e := nat_join i A B hM hB
  have hlt : A ||| B < 2 ^ 31 := Nat.or_lt_two_pow (by omega) (by omega)
  show IntKind.i32.wrap ((BitVec.ofInt 32 (A : Int) ||| BitVec.ofInt 32 (B : Int)).toNat : Int) = _
  rw [BitVec.toNat_or, ofInt_u32 A (by omega), ofInt_u32 B (by omega), e]
  rw [e] at hlt
  simp [IntKind.wrap, IntKind.bits, IntKind.signed]
  omega

theorem pair_bits (a b : Int) (h1 : 55296 ≤ a) (h2 : a < 56320) (h3 : 56320 ≤ b) (h4 : b < 57344) : RowKit.wrap32 (bits .or .i32 ((a - 55296) * 1024) (b - 56320) + 65536) = pair a b := by
  rw [i32_or_join _ _ 10 (by omega) (by omega) (by omega) (by omega) (by omega) (by omega)]
  unfold pair RowKit.wrap32
  omega

theorem u16_or_join (a b : Int) (ha : 0 ≤ a) (ha2 : a < 256) (hb : 0 ≤ b) (hb2 : b < 256) : bits .or .u16 a (b * 256) = a + 256 * b := by
  obtain ⟨A, rfl⟩ := Int.eq_ofNat_of_zero_le ha
  obtain ⟨B, rfl⟩ := Int.eq_ofNat_of_zero_le hb
  have e : bits .or .u16 (A : Int) ((B * 256 : Nat) : Int) = ((A ||| B * 256 : Nat) : Int) := u16_or_nat A (B * 256) (by omega) (by omega)
  have e2 := nat_join 8 (B * 256) A (by omega) (by omega)
  rw [Nat.or_comm] at e2
  rw [e2] at e
  rw [show ((B : Int) * 256) = ((B * 256 : Nat) : Int) by omega, e]
  omega
end Go.Proofs.Qxb6002374a
