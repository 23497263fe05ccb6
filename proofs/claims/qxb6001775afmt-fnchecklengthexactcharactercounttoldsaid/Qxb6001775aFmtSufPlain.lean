/- Plain: a text followed by ASCII bytes has the text's runes and one more for each byte. -/
import Derived.Lib.RuneCount
namespace Go.Proofs.Qxb6001775aFmt
open Go

def Asc (p : ByteArray) : Prop := ∀ (j : Nat) (h : j < p.size), (p[j]'h).toNat < 128

theorem get!_app_left (t p : ByteArray) (k : Nat) (h : k < t.size) : (t ++ p).get! k = t.get! k := by
  have h2 : k < (t ++ p).size := by simp; omega
  have e1 : (t ++ p).get! k = (t ++ p)[k] := by
    show (t ++ p).data[k]! = _
    rw [getElem!_pos (t ++ p).data k (by simpa using h2)]; rfl
  have e2 : t.get! k = t[k] := by
    show t.data[k]! = _
    rw [getElem!_pos t.data k (by simpa using h)]; rfl
  rw [e1, e2, ByteArray.getElem_append_left h]

theorem get!_app_right (t p : ByteArray) (hp : Asc p) (k : Nat) (h : t.size ≤ k) (h2 : k < t.size + p.size) : ((t ++ p).get! k).toNat < 128 := by
  have h3 : k < (t ++ p).size := by simp; omega
  have e1 : (t ++ p).get! k = (t ++ p)[k] := by
    show (t ++ p).data[k]! = _
    rw [getElem!_pos (t ++ p).data k (by simpa using h3)]; rfl
  rw [e1, ByteArray.getElem_append_right h]
  exact hp _ _

/-- One decoding step, over numbers: four bytes, and whether a continuation byte stands at each of the last three places. -/
def dec (b0 b1 b2 b3 : Nat) (c1 c2 c3 : Bool) : Nat × Nat :=
  if b0 < 0x80 then (b0, 1)
  else if b0 / 32 == 6 && c1 then
    if (b0 % 32) * 64 + b1 % 64 ≥ 0x80 then ((b0 % 32) * 64 + b1 % 64, 2) else (Utf8.runeError, 1)
  else if b0 / 16 == 14 && c1 && c2 then
    if (b0 % 16) * 4096 + (b1 % 64) * 64 + b2 % 64 ≥ 0x800 && Utf8.valid ((b0 % 16) * 4096 + (b1 % 64) * 64 + b2 % 64 : Nat) then ((b0 % 16) * 4096 + (b1 % 64) * 64 + b2 % 64, 3) else (Utf8.runeError, 1)
  else if b0 / 8 == 30 && c1 && c2 && c3 then
    if (b0 % 8) * 262144 + (b1 % 64) * 4096 + (b2 % 64) * 64 + b3 % 64 ≥ 0x10000 && Utf8.valid ((b0 % 8) * 262144 + (b1 % 64) * 4096 + (b2 % 64) * 64 + b3 % 64 : Nat) then ((b0 % 8) * 262144 + (b1 % 64) * 4096 + (b2 % 64) * 64 + b3 % 64, 4) else (Utf8.runeError, 1)
  else (Utf8.runeError, 1)

def bAt (s : ByteArray) (k : Nat) : Nat := (s.get! k).toNat
def cAt (s : ByteArray) (k : Nat) : Bool := decide (k < s.size) && bAt s k / 64 == 2

theorem decode_dec (s : ByteArray) (i : Nat) : Utf8.decode s i = dec (bAt s i) (bAt s (i + 1)) (bAt s (i + 2)) (bAt s (i + 3)) (cAt s (i + 1)) (cAt s (i + 2)) (cAt s (i + 3)) := rfl

theorem dec_c1 (b0 b1 b2 b3 b1' b2' b3' : Nat) (c2 c3 c2' c3' : Bool) : dec b0 b1 b2 b3 false c2 c3 = dec b0 b1' b2' b3' false c2' c3' := by simp [dec]
theorem dec_c2 (b0 b1 b2 b3 b2' b3' : Nat) (c1 c3 c3' : Bool) : dec b0 b1 b2 b3 c1 false c3 = dec b0 b1 b2' b3' c1 false c3' := by simp [dec]
theorem dec_c3 (b0 b1 b2 b3 b3' : Nat) (c1 c2 : Bool) : dec b0 b1 b2 b3 c1 c2 false = dec b0 b1 b2 b3' c1 c2 false := by simp [dec]

theorem bAt_app (t p : ByteArray) (k : Nat) (h : k < t.size) : bAt (t ++ p) k = bAt t k := by
  unfold bAt; rw [get!_app_left t p k h]

/-- Whether a continuation byte stands at k is asked alike of both. -/
theorem cAt_app (t p : ByteArray) (hp : Asc p) (k : Nat) : cAt (t ++ p) k = cAt t k := by
  unfold cAt
  by_cases h : k < t.size
  · rw [bAt_app t p k h]
    have h2 : k < (t ++ p).size := by simp; omega
    rw [decide_eq_true h, decide_eq_true h2]
  · rw [decide_eq_false h]
    by_cases h2 : k < t.size + p.size
    · have := get!_app_right t p hp k (by omega) h2
      have e : ¬ bAt (t ++ p) k / 64 = 2 := by unfold bAt; omega
      simp [e]
    · have h3 : ¬ k < (t ++ p).size := by simp; omega
      rw [decide_eq_false h3]; rfl

theorem cAt_out (s : ByteArray) (k : Nat) (h : ¬ k < s.size) : cAt s k = false := by
  unfold cAt; rw [decide_eq_false h]; rfl

theorem decode_app (t p : ByteArray) (hp : Asc p) (i : Nat) (h : i < t.size) : Utf8.decode (t ++ p) i = Utf8.decode t i := by
  rw [decode_dec, decode_dec, cAt_app t p hp, cAt_app t p hp, cAt_app t p hp, bAt_app t p i h]
  by_cases h1 : i + 1 < t.size
  · rw [bAt_app t p _ h1]
    by_cases h2 : i + 2 < t.size
    · rw [bAt_app t p _ h2]
      by_cases h3 : i + 3 < t.size
      · rw [bAt_app t p _ h3]
      · rw [cAt_out t _ h3]; exact dec_c3 _ _ _ _ _ _ _
    · rw [cAt_out t _ h2]; exact dec_c2 _ _ _ _ _ _ _ _ _
  · rw [cAt_out t _ h1]; exact dec_c1 _ _ _ _ _ _ _ _ _ _ _

theorem decode_within (t : ByteArray) (i : Nat) (h : i < t.size) : i + (Utf8.decode t i).2 ≤ t.size := by
  unfold Utf8.decode
  dsimp only
  repeat' split
  all_goals simp_all
  all_goals omega

theorem count_app (t p : ByteArray) (hp : Asc p) : ∀ fuel pos, pos ≤ t.size → t.size ≤ pos + fuel →
    ∀ m, t.size + p.size ≤ pos + m → Lib.runeCountFrom (t ++ p) m pos = Lib.runeCountFrom t fuel pos + p.size
  | 0, pos, h1, h2, m, hm => by
    obtain rfl : pos = t.size := by omega
    simp only [Lib.runeCountFrom, Nat.zero_add]
    clear h1 h2
    suffices ∀ n k, k ≤ p.size → p.size ≤ k + n → Lib.runeCountFrom (t ++ p) n (t.size + k) = p.size - k by
      have := this m 0 (by omega) (by omega)
      simpa using this
    intro n
    induction n with
    | zero => intro k h1 h2; simp [Lib.runeCountFrom]; omega
    | succ n ih =>
      intro k h1 h2
      unfold Lib.runeCountFrom
      by_cases hk : k < p.size
      · have hs : t.size + k < (t ++ p).size := by simp; omega
        have ha : ((t ++ p)[t.size + k]'hs).toNat < 128 := by
          rw [ByteArray.getElem_append_right (by omega)]
          exact hp _ _
        rw [if_pos hs, decode_ascii _ _ hs ha]
        dsimp only
        rw [Nat.add_assoc, ih (k + 1) (by omega) (by omega)]
        omega
      · rw [if_neg (by simp; omega)]
        omega
  | f + 1, pos, h1, h2, m, hm => by
    by_cases hp' : pos < t.size
    · obtain ⟨m', rfl⟩ : ∃ m', m = m' + 1 := ⟨m - 1, by omega⟩
      have hw := Lib.decode_width_pos t pos hp'
      have hi := decode_within t pos hp'
      have ih := count_app t p hp f (pos + (Utf8.decode t pos).2) hi (by omega) m' (by omega)
      unfold Lib.runeCountFrom
      rw [if_pos hp', if_pos (by simp; omega), decode_app t p hp pos hp', ih]
      omega
    · rw [Lib.runeCountFrom_end t _ pos hp', ← Lib.runeCountFrom_end t 0 pos hp']
      exact count_app t p hp 0 pos h1 (by omega) m hm

theorem runeCount_app (t p : ByteArray) (hp : Asc p) : Lib.runeCount (t ++ p) = Lib.runeCount t + p.size := by
  unfold Lib.runeCount
  exact count_app t p hp t.size 0 (by omega) (by omega) _ (by simp)
end Go.Proofs.Qxb6001775aFmt
