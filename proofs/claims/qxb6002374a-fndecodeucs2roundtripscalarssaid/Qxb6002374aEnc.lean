/- Plain: UTF-8 of a rune as a list of numbers; the bits of zzAppendUTF8's text. -/
import Derived.Test.Qxb6002374aUnits
import Derived.Laws.Cover4
namespace Go.Proofs.Qxb6002374a
open Go

/-- The bytes of a rune. -/
def enc8 (r : Int) : List Int :=
  if r < 128 then [r] else if r < 2048 then [192 + r / 64, 128 + r % 64]
  else if r < 65536 then [224 + r / 4096, 128 + r / 64 % 64, 128 + r % 64]
  else [240 + r / 262144, 128 + r / 4096 % 64, 128 + r / 64 % 64, 128 + r % 64]

/-- The string of a list of bytes. -/
def bytesStr (bs : List Int) : ByteArray := bs.foldl (fun r n => r.push (UInt8.ofNat n.toNat)) ByteArray.empty

theorem u32_or_add (c x : Int) (i : Nat) (hc : 0 ≤ c) (hc2 : c < 256) (hx : 0 ≤ x) (hx2 : x < 2 ^ i) (hi : i ≤ 8) (hm : c % 2 ^ i = 0) : bits .or .u32 c x = c + x := by
  obtain ⟨A, rfl⟩ := Int.eq_ofNat_of_zero_le hc
  obtain ⟨X, rfl⟩ := Int.eq_ofNat_of_zero_le hx
  have hp : (2 : Nat) ^ i ≤ 2 ^ 8 := Nat.pow_le_pow_right (by omega) hi
  have hX : X < 2 ^ i := by exact_mod_cast hx2
  have hM : A % 2 ^ i = 0 := by exact_mod_cast hm
  rw [u32_or_nat A X (by omega) (by omega), nat_join i A X hM hX]
  omega

theorem u32_and63 (r : Int) (h0 : 0 ≤ r) (h1 : r < 4294967296) : bits .and .u32 r 63 = r % 64 := by
  obtain ⟨A, rfl⟩ := Int.eq_ofNat_of_zero_le h0
  have := u32_and_nat A 63 (by omega) (by omega)
  rw [nat_mask6] at this
  rw [show ((63 : Int)) = ((63 : Nat) : Int) by rfl, this]
  omega

theorem lead2 (r : Int) (h0 : 128 ≤ r) (h1 : r < 2048) : bits .or .u32 192 (r / 64) % 256 = 192 + r / 64 := by
  rw [u32_or_add 192 (r / 64) 5 (by omega) (by omega) (by omega) (by omega) (by omega) (by omega)]; omega
theorem lead3 (r : Int) (h0 : 2048 ≤ r) (h1 : r < 65536) : bits .or .u32 224 (r / 4096) % 256 = 224 + r / 4096 := by
  rw [u32_or_add 224 (r / 4096) 4 (by omega) (by omega) (by omega) (by omega) (by omega) (by omega)]; omega
theorem lead4 (r : Int) (h0 : 65536 ≤ r) (h1 : r < 1114112) : bits .or .u32 240 (r / 262144) % 256 = 240 + r / 262144 := by
  rw [u32_or_add 240 (r / 262144) 3 (by omega) (by omega) (by omega) (by omega) (by omega) (by omega)]; omega
theorem trail (q : Int) (h0 : 0 ≤ q) (h1 : q < 4294967296) : bits .or .u32 128 (bits .and .u32 q 63) % 256 = 128 + q % 64 := by
  rw [u32_and63 q h0 h1, u32_or_add 128 (q % 64) 6 (by omega) (by omega) (by omega) (by omega) (by omega) (by omega)]; omega

theorem enc8_byt (r : Int) (h0 : 0 ≤ r) (h1 : r < 1114112) : ∀ x ∈ enc8 r, 0 ≤ x ∧ x ≤ 255 := by
  intro x hx
  unfold enc8 at hx
  split at hx
  · simp at hx; omega
  · split at hx
    · simp at hx; omega
    · split at hx
      · simp at hx; omega
      · simp at hx; omega

theorem enc8_length (r : Int) : 1 ≤ (enc8 r).length ∧ (enc8 r).length ≤ 4 := by
  unfold enc8
  split
  · simp
  · split
    · simp
    · split <;> simp

/-- The model's own encoding gives these bytes. -/
theorem encode_enc8 (r : Int) (h0 : 0 ≤ r) (h1 : r < 55296 ∨ (57344 ≤ r ∧ r < 1114112)) (s : ByteArray) : s ++ Utf8.encode r = (enc8 r).foldl (fun t n => t.push (UInt8.ofNat n.toNat)) s := by
  obtain ⟨n, rfl⟩ := Int.eq_ofNat_of_zero_le h0
  have hv : Utf8.valid (n : Int) = true := by
    unfold Utf8.valid
    simp
    omega
  unfold Utf8.encode enc8
  simp only [hv, if_true, Int.toNat_natCast]
  by_cases ha : n < 128
  · rw [if_pos ha, if_pos (by omega)]
    apply ByteArray.ext
    simp
  · rw [if_neg ha, if_neg (show ¬ ((n : Int) < 128) by omega)]
    by_cases hb : n < 2048
    · rw [if_pos hb, if_pos (show (n : Int) < 2048 by omega)]
      have e1 : (192 + (n : Int) / 64).toNat = 192 + n / 64 := by omega
      have e2 : (128 + (n : Int) % 64).toNat = 128 + n % 64 := by omega
      apply ByteArray.ext
      simp [e1, e2]
      apply Array.ext'
      simp
    · rw [if_neg hb, if_neg (show ¬ ((n : Int) < 2048) by omega)]
      by_cases hc : n < 65536
      · rw [if_pos hc, if_pos (show (n : Int) < 65536 by omega)]
        have e1 : (224 + (n : Int) / 4096).toNat = 224 + n / 4096 := by omega
        have e2 : (128 + (n : Int) / 64 % 64).toNat = 128 + n / 64 % 64 := by omega
        have e3 : (128 + (n : Int) % 64).toNat = 128 + n % 64 := by omega
        apply ByteArray.ext
        simp [e1, e2, e3]
        apply Array.ext'
        simp
      · rw [if_neg hc, if_neg (show ¬ ((n : Int) < 65536) by omega)]
        have e0 : (240 + (n : Int) / 262144).toNat = 240 + n / 262144 := by omega
        have e1 : (128 + (n : Int) / 4096 % 64).toNat = 128 + n / 4096 % 64 := by omega
        have e2 : (128 + (n : Int) / 64 % 64).toNat = 128 + n / 64 % 64 := by omega
        have e3 : (128 + (n : Int) % 64).toNat = 128 + n % 64 := by omega
        apply ByteArray.ext
        simp [e0, e1, e2, e3]
        apply Array.ext'
        simp

def Scal (r : Int) : Prop := 0 ≤ r ∧ (r < 55296 ∨ (57344 ≤ r ∧ r < 1114112))

theorem runes_fold (rs : List Int) : (∀ r ∈ rs, Scal r) → ∀ s : ByteArray, rs.foldl (fun t n => t ++ Utf8.encode n) s = (rs.flatMap enc8).foldl (fun t n => t.push (UInt8.ofNat n.toNat)) s := by
  induction rs with
  | nil => intro _ s; rfl
  | cons r rs ih =>
    intro h s
    have hr := h r (by simp)
    rw [List.foldl_cons, List.flatMap_cons, List.foldl_append, ← encode_enc8 r hr.1 hr.2 s]
    exact ih (fun x hx => h x (List.mem_cons_of_mem _ hx)) _

theorem runes_bytes (rs : List Int) (h : ∀ r ∈ rs, Scal r) : runesBytes rs = bytesStr (rs.flatMap enc8) := runes_fold rs h _

theorem bytesStr_size (bs : List Int) : (bytesStr bs).size = bs.length := by
  suffices ∀ s : ByteArray, (bs.foldl (fun r n => r.push (UInt8.ofNat n.toNat)) s).size = s.size + bs.length by
    have := this ByteArray.empty
    simpa [bytesStr] using this
  induction bs with
  | nil => intro s; simp
  | cons b bs ih => intro s; rw [List.foldl_cons, ih]; simp [ByteArray.size_push]; omega
end Go.Proofs.Qxb6002374a
