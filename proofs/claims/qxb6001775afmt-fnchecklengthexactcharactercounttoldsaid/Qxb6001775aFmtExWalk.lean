/- The walk of FnCheckLengthExactCharacterCount. -/
import Derived.Test.Qxb6001775aFmtCl
import Derived.Test.Qxb6001775aFmtStepWalk
namespace Go.Proofs.Qxb6001775aFmt
open Go.RowKit Go.Extern.Stop Go.Stop Go.Extern

theorem bytes6 (s : ByteArray) (w : World) (hs : s.size ≤ 1048576) :
    Calls Tryf.prog 6 #[.string s] w fun e w' => e = .returned (.bool true) ∧ w' = w := by
  go_enter Tryf.func6, Tryf.ntmps6
  go_wp2
  go_ret
  exact ⟨rfl, rfl⟩

theorem bytes6_no (s : ByteArray) (w : World) (hs : ¬ s.size ≤ 1048576) :
    Calls Tryf.prog 6 #[.string s] w fun e w' => e = .returned (.bool false) ∧ w' = w := by
  go_enter Tryf.func6, Tryf.ntmps6
  go_wp2
  go_ret
  exact ⟨rfl, rfl⟩

/-- More fuel than bytes are left changes nothing. -/
theorem count_fuel (s : ByteArray) : ∀ f g pos, s.size ≤ pos + f → s.size ≤ pos + g → Lib.runeCountFrom s f pos = Lib.runeCountFrom s g pos
  | 0, g, pos, h, _ => by rw [Lib.runeCountFrom_end s 0 pos (by omega), Lib.runeCountFrom_end s g pos (by omega)]
  | f + 1, 0, pos, _, h => by rw [Lib.runeCountFrom_end s 0 pos (by omega), Lib.runeCountFrom_end s (f + 1) pos (by omega)]
  | f + 1, g + 1, pos, h1, h2 => by
    unfold Lib.runeCountFrom
    by_cases hp : pos < s.size
    · have := Lib.decode_width_pos s pos hp
      rw [if_pos hp, if_pos hp, count_fuel s f g _ (by omega) (by omega)]
    · rw [if_neg hp, if_neg hp]

theorem count_step (s : ByteArray) (pos : Nat) (h : pos < s.size) : Lib.runeCountFrom s s.size pos = 1 + Lib.runeCountFrom s s.size (pos + (Utf8.decode s pos).2) := by
  have hw := Lib.decode_width_pos s pos h
  rw [count_fuel s s.size (s.size + 1) pos (by omega) (by omega)]
  show (if pos < s.size then 1 + Lib.runeCountFrom s s.size (pos + (Utf8.decode s pos).2) else 0) = _
  rw [if_pos h]

theorem chars_any (s : ByteArray) (w : World) (hs : s.size ≤ 1048576) :
    Calls Tryf.prog 8 #[.string s] w fun e w' => e = .returned (.int .i64 (Lib.runeCount s : Nat)) ∧ w' = w := by
  go_enter Tryf.func8, Tryf.ntmps8
  go_wp2
  go_loop [3, 4] (fun n i => ∃ c k : Nat, k ≤ s.size ∧ c ≤ k ∧ i = .int .i64 k ∧ n = .int .i64 c ∧ Hid (c + Lib.runeCountFrom s s.size k = Lib.runeCount s)) (fun _ i => s.size - (intOf i).toNat)
  case atStart => exact ⟨0, 0, Nat.zero_le _, Nat.le_refl _, rfl, rfl, by unfold Hid Lib.runeCount; omega⟩
  case round =>
    obtain ⟨c, k, hk, hck, rfl, rfl, HC⟩ := hrel
    by_cases hlt : k < s.size
    · have hin := decode_within s k hlt
      have hpos := Lib.decode_width_pos s k hlt
      have HS : Hid (Lib.runeCountFrom s s.size k = 1 + Lib.runeCountFrom s s.size (k + (Utf8.decode s k).2)) := count_step s k hlt
      obtain ⟨d, hd⟩ : ∃ d, d = (Utf8.decode s k).2 := ⟨_, rfl⟩
      have hcall := step_any s k w hs hlt
      rw [← hd] at hcall hin hpos HS
      clear hd
      go_wp2_with (go_at_call 14; refine hcall.mono ?_; rintro e w' ⟨rfl, rfl⟩)
      go_round
      case rel => exact ⟨c + 1, k + d, by omega, by omega, by go_num, by go_num, by have h1 := HC.out; have h2 := HS.out; unfold Hid; omega⟩
      case measure => simp [intOf]; omega
    · have HE : Hid (Lib.runeCount s = c) := by
        have h1 := HC.out
        rw [Lib.runeCountFrom_end s _ k hlt] at h1
        unfold Hid; omega
      go_wp2
      go_ret
      exact ⟨ret_int (by rw [HE.out]), rfl⟩

theorem exWalk (F : Interp) (s : ByteArray) (w : World) (hF : F.answers w.tape) :
    Calls Tryf.prog 3 #[.string s] w fun e w' => e = .returned (.bool true) ∧ Below w.heap.size w w' := by
  by_cases h20 : s.size ≤ 1048576
  · have hs : s.size < 9223372036854775807 := by omega
    by_cases h64 : Lib.runeCount s ≤ 64
    · have hc : (Lib.runeCount s : Int) ≤ 64 := by omega
      go_enter Tryf.func3, Tryf.ntmps3
      go_wp2_with (first
        | (go_at_call 6; refine (bytes6 _ _ h20).mono ?_; rintro e w' ⟨rfl, rfl⟩)
        | (go_at_call 7; refine (cl_ok _ _ hs h64).mono ?_; rintro e w' ⟨rfl, pos, rfl⟩)
        | (go_at_call 8; refine (chars_any _ _ h20).mono ?_; rintro e w' ⟨rfl, rfl⟩))
      go_ret
      exact ⟨rfl, (Below.refl _ _).alloc (Nat.le_refl _) _⟩
    · have hc : ¬ (Lib.runeCount s : Int) ≤ 64 := by omega
      go_enter Tryf.func3, Tryf.ntmps3
      go_wp2_with (first
        | (go_at_call 6; refine (bytes6 _ _ h20).mono ?_; rintro e w' ⟨rfl, rfl⟩)
        | (go_at_call 7; refine (cl_bad F _ _ hF hs (by omega)).mono ?_; rintro e w1 ⟨⟨a, rfl⟩, hb⟩)
        | (go_at_call 8; refine (chars_any _ _ h20).mono ?_; rintro e w' ⟨rfl, rfl⟩))
      go_ret
      refine ⟨?_, hb⟩
      show Ending.returned (.bool (!decide ((Lib.runeCount s : Int) ≤ 64))) = _
      rw [decide_eq_false (by omega)]; rfl
  · go_enter Tryf.func3, Tryf.ntmps3
    go_wp2_with (first
      | (go_at_call 6; refine (bytes6_no _ _ h20).mono ?_; rintro e w' ⟨rfl, rfl⟩))
    go_ret
    exact ⟨rfl, Below.refl _ _⟩
end Go.Proofs.Qxb6001775aFmt
