/- The walk of FnCheckLengthASCIISuffixNeverHelps. -/
import Derived.Test.Qxb6001775aFmtCl
import Derived.Test.Qxb6001775aFmtSufPlain
namespace Go.Proofs.Qxb6001775aFmt
open Go.RowKit Go.Extern.Stop Go.Stop Go.Extern

theorem bytes10 (s p : ByteArray) (w : World) (hs : s.size + p.size ≤ 1048576) :
    Calls Tryf.prog 10 #[.string s, .string p] w fun e w' => e = .returned (.bool true) ∧ w' = w := by
  go_enter Tryf.func10, Tryf.ntmps10
  go_wp2
  go_ret
  exact ⟨rfl, rfl⟩

theorem bytes10_no (s p : ByteArray) (w : World) (hz : s.size ≤ maxLen) (hq : p.size ≤ maxLen) (hs : ¬ s.size + p.size ≤ 1048576) :
    Calls Tryf.prog 10 #[.string s, .string p] w fun e w' => e = .returned (.bool false) ∧ w' = w := by
  unfold maxLen at hz hq
  by_cases h1 : s.size ≤ 1048576
  · by_cases h2 : p.size ≤ 1048576
    all_goals
      go_enter Tryf.func10, Tryf.ntmps10
      go_wp2
      go_ret
      exact ⟨rfl, rfl⟩
  · go_enter Tryf.func10, Tryf.ntmps10
    go_wp2
    go_ret
    exact ⟨rfl, rfl⟩

theorem ascii_yes (s : ByteArray) (w : World) (hs : s.size ≤ 1048576) (ha : Asc s) :
    Calls Tryf.prog 11 #[.string s] w fun e w' => e = .returned (.bool true) ∧ w' = w := by
  go_enter Tryf.func11, Tryf.ntmps11
  go_wp2
  go_loop [3] (fun i => ∃ k : Nat, k ≤ s.size ∧ i = .int .i64 k) (fun i => s.size - (intOf i).toNat)
  case atStart => exact ⟨0, Nat.zero_le _, rfl⟩
  case round =>
    obtain ⟨k, hk, rfl⟩ := hrel
    by_cases hlt : k < s.size
    · have hb := ha k hlt
      have hb' : ¬ (128 : Int) ≤ (s[k].toNat : Int) := by omega
      go_wp2
      go_round
      case rel => exact ⟨k + 1, by omega, by go_num⟩
      case measure => simp [intOf]; omega
    · go_wp2
      go_ret
      exact ⟨rfl, rfl⟩

theorem ascii_no (s : ByteArray) (w : World) (hs : s.size ≤ 1048576) (ha : ¬ Asc s) :
    Calls Tryf.prog 11 #[.string s] w fun e w' => e = .returned (.bool false) ∧ w' = w := by
  go_enter Tryf.func11, Tryf.ntmps11
  go_wp2
  go_loop [3] (fun i => ∃ k : Nat, k ≤ s.size ∧ i = .int .i64 k ∧ ∀ (j : Nat) (h : j < s.size), j < k → (s[j]'h).toNat < 128) (fun i => s.size - (intOf i).toNat)
  case atStart => exact ⟨0, Nat.zero_le _, rfl, fun _ _ h => absurd h (Nat.not_lt_zero _)⟩
  case round =>
    obtain ⟨k, hk, rfl, hall⟩ := hrel
    have HA : Hid (∀ (j : Nat) (h : j < s.size), j < k → (s[j]'h).toNat < 128) := hall
    clear hall
    by_cases hlt : k < s.size
    · by_cases hb' : (128 : Int) ≤ (s[k].toNat : Int)
      · go_wp2
        go_ret
        exact ⟨rfl, rfl⟩
      · go_wp2
        go_round
        case rel =>
          refine ⟨k + 1, by omega, by go_num, fun j h hj => ?_⟩
          by_cases hjk : j < k
          · exact HA.out j h hjk
          · obtain rfl : j = k := by omega
            omega
        case measure => simp [intOf]; omega
    · exact absurd (fun j h => HA.out j h (by omega)) ha

theorem sufWalk (F : Interp) (s p : ByteArray) (w : World) (hF : F.answers w.tape) (hz : s.size ≤ maxLen) (hq : p.size ≤ maxLen) :
    Calls Tryf.prog 5 #[.string s, .string p] w fun e w' => e = .returned (.bool true) ∧ Below w.heap.size w w' := by
  by_cases h20 : s.size + p.size ≤ 1048576
  · by_cases hs19 : s.size ≤ 524288
    · by_cases hp19 : p.size ≤ 524288
      · by_cases ha : Asc p
        · have hap := runeCount_app s p ha
          have hle : Hid (Lib.runeCount (s ++ p) = Lib.runeCount s + p.size) := hap
          clear hap
          have hs : s.size < 9223372036854775807 := by omega
          have hsp : (s ++ p).size < 9223372036854775807 := by simp; omega
          by_cases hc : Lib.runeCount s + p.size ≤ 64
          · have hp64 : ¬ (64 : Int) < (p.size : Int) := by omega
            go_enter Tryf.func5, Tryf.ntmps5
            go_wp2_with (first
              | (go_at_call 10; refine (bytes10 _ _ _ h20).mono ?_; rintro e w' ⟨rfl, rfl⟩)
              | (go_at_call 11; refine (ascii_yes _ _ (by omega) ha).mono ?_; rintro e w' ⟨rfl, rfl⟩)
              | fail)
            refine (cl_ok (s ++ p) _ hsp (by rw [hle.out]; exact hc)).mono ?_
            rintro e w' ⟨rfl, pos, rfl⟩
            go_wp2_with (go_at_call 7; refine (cl_ok s _ hs (by omega)).mono ?_; rintro e w' ⟨rfl, pos2, rfl⟩)
            go_ret
            exact ⟨rfl, ((Below.refl _ _).alloc (Nat.le_refl _) _).alloc (by simp) _⟩
          · have hc2 : 64 < Lib.runeCount (s ++ p) := by rw [hle.out]; omega
            by_cases hp64 : (64 : Int) < (p.size : Int)
            all_goals
              go_enter Tryf.func5, Tryf.ntmps5
              go_wp2_with (first
                | (go_at_call 10; refine (bytes10 _ _ _ h20).mono ?_; rintro e w' ⟨rfl, rfl⟩)
                | (go_at_call 11; refine (ascii_yes _ _ (by omega) ha).mono ?_; rintro e w' ⟨rfl, rfl⟩)
                | (go_at_call 7; refine (cl_bad F _ _ hF hsp hc2).mono ?_; rintro e w' ⟨⟨a, rfl⟩, hb⟩))
              go_ret
              exact ⟨rfl, hb⟩
        · go_enter Tryf.func5, Tryf.ntmps5
          go_wp2_with (first
            | (go_at_call 10; refine (bytes10 _ _ _ h20).mono ?_; rintro e w' ⟨rfl, rfl⟩)
            | (go_at_call 11; refine (ascii_no _ _ (by omega) ha).mono ?_; rintro e w' ⟨rfl, rfl⟩))
          go_ret
          exact ⟨rfl, Below.refl _ _⟩
      · go_enter Tryf.func5, Tryf.ntmps5
        go_wp2_with (first
          | (go_at_call 10; refine (bytes10 _ _ _ h20).mono ?_; rintro e w' ⟨rfl, rfl⟩))
        go_ret
        exact ⟨rfl, Below.refl _ _⟩
    · go_enter Tryf.func5, Tryf.ntmps5
      go_wp2_with (first
        | (go_at_call 10; refine (bytes10 _ _ _ h20).mono ?_; rintro e w' ⟨rfl, rfl⟩))
      go_ret
      exact ⟨rfl, Below.refl _ _⟩
  · go_enter Tryf.func5, Tryf.ntmps5
    go_wp2_with (first
      | (go_at_call 10; refine (bytes10_no _ _ _ hz hq h20).mono ?_; rintro e w' ⟨rfl, rfl⟩))
    go_ret
    exact ⟨rfl, Below.refl _ _⟩
end Go.Proofs.Qxb6001775aFmt
