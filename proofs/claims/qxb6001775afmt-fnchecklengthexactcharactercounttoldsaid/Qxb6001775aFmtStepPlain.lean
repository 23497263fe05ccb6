/- Plain: the hand-written UTF-8 step of the laws' text, and the model's decoding. -/
import Derived.Test.Qxb6001775aFmtSufPlain
namespace Go.Proofs.Qxb6001775aFmt
open Go
set_option linter.unusedSimpArgs false

theorem bAt_get (s : ByteArray) (k : Nat) (h : k < s.size) : bAt s k = (s[k]'h).toNat := by
  unfold bAt
  congr 1
  show s.data[k]! = _
  rw [getElem!_pos s.data k (by simpa using h)]; rfl

/-- The step behind the switch: size n, the second byte from lo to hi, the later ones continuation bytes. -/
def stepOf (s : ByteArray) (i n lo hi : Nat) : Nat :=
  if s.size < i + n then 1
  else if bAt s (i + 1) < lo ∨ hi < bAt s (i + 1) then 1
  else if ∀ k, k < n → 2 ≤ k → 128 ≤ bAt s (i + k) ∧ bAt s (i + k) ≤ 191 then n else 1

theorem bAt_lt (s : ByteArray) (k : Nat) : bAt s k < 256 := UInt8.toNat_lt _

theorem cAt_true (s : ByteArray) (k : Nat) : cAt s k = true ↔ k < s.size ∧ 128 ≤ bAt s k ∧ bAt s k ≤ 191 := by
  unfold cAt
  simp
  omega
theorem cAt_false (s : ByteArray) (k : Nat) : cAt s k = false ↔ ¬ (k < s.size ∧ 128 ≤ bAt s k ∧ bAt s k ≤ 191) := by
  rw [← cAt_true, Bool.not_eq_true]

theorem stepOf_short (s : ByteArray) (i n lo hi : Nat) (h : s.size < i + n) : stepOf s i n lo hi = 1 := by unfold stepOf; rw [if_pos h]
theorem stepOf_b1 (s : ByteArray) (i n lo hi : Nat) (h1 : bAt s (i + 1) < lo ∨ hi < bAt s (i + 1)) : stepOf s i n lo hi = 1 := by
  unfold stepOf; rw [if_pos h1]; split <;> rfl
theorem stepOf_bad (s : ByteArray) (i n lo hi k : Nat) (hk : k < n) (h2 : 2 ≤ k) (hb : ¬ (128 ≤ bAt s (i + k) ∧ bAt s (i + k) ≤ 191)) : stepOf s i n lo hi = 1 := by
  unfold stepOf
  split
  · rfl
  · split
    · rfl
    · exact if_neg (fun h => hb (h k hk h2))
theorem stepOf_ok (s : ByteArray) (i n lo hi : Nat) (h : ¬ s.size < i + n) (h1 : ¬ (bAt s (i + 1) < lo ∨ hi < bAt s (i + 1))) (hb : ∀ k, k < n → 2 ≤ k → 128 ≤ bAt s (i + k) ∧ bAt s (i + k) ≤ 191) : stepOf s i n lo hi = n := by
  unfold stepOf; rw [if_neg h, if_neg h1, if_pos hb]

theorem valid_nat (c : Nat) : Utf8.valid (c : Nat) = decide (c < 0xD800 ∨ (0xE000 ≤ c ∧ c ≤ 0x10FFFF)) := by
  unfold Utf8.valid
  rw [Bool.eq_iff_iff]
  simp
  omega

theorem dec2 (b0 b1 b2 b3 : Nat) (c1 c2 c3 : Bool) (hl : 194 ≤ b0) (hh : b0 ≤ 223) : (dec b0 b1 b2 b3 c1 c2 c3).2 = if c1 then 2 else 1 := by
  unfold dec
  rw [if_neg (by omega)]
  have e1 : b0 / 32 = 6 := by omega
  have e2 : ¬ b0 / 16 = 14 := by omega
  have e3 : ¬ b0 / 8 = 30 := by omega
  have e4 : (b0 % 32) * 64 + b1 % 64 ≥ 128 := by omega
  cases c1 <;> simp [e1, e2, e3, e4]

theorem dec3 (b0 b1 b2 b3 : Nat) (c1 c2 c3 : Bool) (hl : 224 ≤ b0) (hh : b0 ≤ 239) :
    (dec b0 b1 b2 b3 c1 c2 c3).2 = if c1 = true ∧ c2 = true ∧ (b0 = 224 → 32 ≤ b1 % 64) ∧ (b0 = 237 → b1 % 64 < 32) then 3 else 1 := by
  unfold dec
  rw [if_neg (by omega)]
  have e1 : ¬ b0 / 32 = 6 := by omega
  have e2 : b0 / 16 = 14 := by omega
  have e3 : ¬ b0 / 8 = 30 := by omega
  rw [valid_nat]
  cases c1 <;> cases c2 <;> simp [e1, e2, e3]
  by_cases h : (b0 = 224 → 32 ≤ b1 % 64) ∧ (b0 = 237 → b1 % 64 < 32)
  · rw [if_pos h, if_pos (by omega)]
  · rw [if_neg h, if_neg (by omega)]

theorem dec4 (b0 b1 b2 b3 : Nat) (c1 c2 c3 : Bool) (hl : 240 ≤ b0) (hh : b0 ≤ 247) :
    (dec b0 b1 b2 b3 c1 c2 c3).2 = if c1 = true ∧ c2 = true ∧ c3 = true ∧ (b0 = 240 → 16 ≤ b1 % 64) ∧ (b0 = 244 → b1 % 64 < 16) ∧ b0 ≤ 244 then 4 else 1 := by
  unfold dec
  rw [if_neg (by omega)]
  have e1 : ¬ b0 / 32 = 6 := by omega
  have e2 : ¬ b0 / 16 = 14 := by omega
  have e3 : b0 / 8 = 30 := by omega
  rw [valid_nat, valid_nat]
  cases c1 <;> cases c2 <;> cases c3 <;> simp [e1, e2, e3]
  by_cases h : (b0 = 240 → 16 ≤ b1 % 64) ∧ (b0 = 244 → b1 % 64 < 16) ∧ b0 ≤ 244
  · rw [if_pos h, if_pos (by omega)]
  · rw [if_neg h, if_neg (by omega)]

theorem dec_low (b0 b1 b2 b3 : Nat) (c1 c2 c3 : Bool) (h : b0 < 128) : (dec b0 b1 b2 b3 c1 c2 c3).2 = 1 := by unfold dec; rw [if_pos h]
theorem dec_bad (b0 b1 b2 b3 : Nat) (c1 c2 c3 : Bool) (hl : 128 ≤ b0) (hh : b0 < 194 ∨ 248 ≤ b0) (hx : b0 < 256) : (dec b0 b1 b2 b3 c1 c2 c3).2 = 1 := by
  unfold dec
  rw [if_neg (by omega)]
  have e2 : ¬ b0 / 16 = 14 := by omega
  have e3 : ¬ b0 / 8 = 30 := by omega
  by_cases e1 : b0 / 32 = 6
  · have e4 : ¬ (b0 % 32) * 64 + b1 % 64 ≥ 128 := by omega
    cases c1 <;> simp [e1, e2, e3, e4]
  · simp [e1, e2, e3]

theorem step2 (s : ByteArray) (i : Nat) (hl : 194 ≤ bAt s i) (hh : bAt s i ≤ 223) : (Utf8.decode s i).2 = stepOf s i 2 128 191 := by
  rw [decode_dec, dec2 _ _ _ _ _ _ _ hl hh]
  cases hc : cAt s (i + 1)
  · rw [cAt_false] at hc
    unfold stepOf
    by_cases h : s.size < i + 2
    · rw [if_pos h]; rfl
    · have hb : bAt s (i + 1) < 128 ∨ 191 < bAt s (i + 1) := by omega
      rw [if_neg h, if_pos hb]; rfl
  · rw [cAt_true] at hc
    rw [stepOf_ok _ _ _ _ _ (by omega) (by omega) (fun k h1 h2 => by omega)]; rfl

theorem step3 (s : ByteArray) (i lo hi : Nat) (hl : 224 ≤ bAt s i) (hh : bAt s i ≤ 239) (hlo : lo = if bAt s i = 224 then 160 else 128) (hhi : hi = if bAt s i = 237 then 159 else 191) : (Utf8.decode s i).2 = stepOf s i 3 lo hi := by
  rw [decode_dec, dec3 _ _ _ _ _ _ _ hl hh]
  have hx := bAt_lt s (i + 1)
  by_cases hsz : s.size < i + 3
  · rw [stepOf_short _ _ _ _ _ hsz, if_neg]
    rintro ⟨_, h2, _⟩
    rw [cAt_true] at h2
    omega
  · by_cases hb1 : bAt s (i + 1) < lo ∨ hi < bAt s (i + 1)
    · rw [stepOf_b1 _ _ _ _ _ hb1, if_neg]
      rintro ⟨h1, _, h3, h4⟩
      rw [cAt_true] at h1
      split at hlo <;> split at hhi <;> omega
    · have hr : 128 ≤ bAt s (i + 1) ∧ bAt s (i + 1) ≤ 191 := by split at hlo <;> split at hhi <;> omega
      by_cases hb2 : 128 ≤ bAt s (i + 2) ∧ bAt s (i + 2) ≤ 191
      · rw [stepOf_ok _ _ _ _ _ hsz hb1 (fun k h1 h2 => by
            obtain rfl : k = 2 := by omega
            exact hb2), if_pos]
        rw [cAt_true, cAt_true]
        split at hlo <;> split at hhi <;> omega
      · rw [stepOf_bad _ _ _ _ _ 2 (by omega) (by omega) hb2, if_neg]
        rintro ⟨_, h2, _⟩
        rw [cAt_true] at h2
        exact hb2 h2.2

theorem step4 (s : ByteArray) (i lo hi : Nat) (hl : 240 ≤ bAt s i) (hh : bAt s i ≤ 244) (hlo : lo = if bAt s i = 240 then 144 else 128) (hhi : hi = if bAt s i = 244 then 143 else 191) : (Utf8.decode s i).2 = stepOf s i 4 lo hi := by
  rw [decode_dec, dec4 _ _ _ _ _ _ _ hl (by omega)]
  have hx := bAt_lt s (i + 1)
  by_cases hsz : s.size < i + 4
  · rw [stepOf_short _ _ _ _ _ hsz, if_neg]
    rintro ⟨_, _, h2, _⟩
    rw [cAt_true] at h2
    omega
  · by_cases hb1 : bAt s (i + 1) < lo ∨ hi < bAt s (i + 1)
    · rw [stepOf_b1 _ _ _ _ _ hb1, if_neg]
      rintro ⟨h1, _, _, h3, h4, _⟩
      rw [cAt_true] at h1
      split at hlo <;> split at hhi <;> omega
    · have hr : 128 ≤ bAt s (i + 1) ∧ bAt s (i + 1) ≤ 191 := by split at hlo <;> split at hhi <;> omega
      by_cases hb2 : 128 ≤ bAt s (i + 2) ∧ bAt s (i + 2) ≤ 191
      · by_cases hb3 : 128 ≤ bAt s (i + 3) ∧ bAt s (i + 3) ≤ 191
        · rw [stepOf_ok _ _ _ _ _ hsz hb1 (fun k h1 h2 => by
              rcases (by omega : k = 2 ∨ k = 3) with rfl | rfl
              · exact hb2
              · exact hb3), if_pos]
          rw [cAt_true, cAt_true, cAt_true]
          split at hlo <;> split at hhi <;> omega
        · rw [stepOf_bad _ _ _ _ _ 3 (by omega) (by omega) hb3, if_neg]
          rintro ⟨_, _, h2, _⟩
          rw [cAt_true] at h2
          exact hb3 h2.2
      · rw [stepOf_bad _ _ _ _ _ 2 (by omega) (by omega) hb2, if_neg]
        rintro ⟨_, h2, _⟩
        rw [cAt_true] at h2
        exact hb2 h2.2

theorem step1_low (s : ByteArray) (i : Nat) (h : bAt s i < 128) : (Utf8.decode s i).2 = 1 := by rw [decode_dec]; exact dec_low _ _ _ _ _ _ _ h
theorem step1_bad (s : ByteArray) (i : Nat) (h : 128 ≤ bAt s i) (h2 : bAt s i < 194 ∨ 245 ≤ bAt s i) : (Utf8.decode s i).2 = 1 := by
  have hx := bAt_lt s i
  rw [decode_dec]
  by_cases h3 : bAt s i < 194 ∨ 248 ≤ bAt s i
  · exact dec_bad _ _ _ _ _ _ _ h h3 hx
  · rw [dec4 _ _ _ _ _ _ _ (by omega) (by omega), if_neg (by omega)]
end Go.Proofs.Qxb6001775aFmt
