/- The walks of zzBytes, zzFiguresFit, zzKth. -/
import Derived.Test.Qxb6002396aProg
import Derived.Test.Qxb6002396aPlain
import Derived.WalkKit
import Derived.WalkSpells
import Derived.WalkLawsBesides
import Derived.Below
import Derived.Deep.QuietTactic
import Derived.BigQuiet
namespace Go.Proofs.Qxb6002396a
open Go.RowKit

theorem ret_int {k : IntKind} {a b : Int} (h : a = b) : Ending.returned (.int k a) = .returned (.int k b) := by rw [h]

theorem bytes9 (a : Option Addr) (n cap : Nat) (w : World) (hs : n ≤ 1048576) :
    Calls Try.prog 9 #[.slice a n cap] w fun e w' => e = .returned (.bool true) ∧ w = w' := by
  go_enter Try.func9, Try.ntmps9
  go_wp2
  go_ret
  exact ⟨rfl, rfl⟩

theorem bytes9_no (a : Option Addr) (n cap : Nat) (w : World) (hs : ¬ n ≤ 1048576) :
    Calls Try.prog 9 #[.slice a n cap] w fun e w' => e = .returned (.bool false) ∧ w = w' := by
  go_enter Try.func9, Try.ntmps9
  go_wp2
  go_ret
  exact ⟨rfl, rfl⟩

def Fit1 (x : Int) : Prop := -2305843009213693952 ≤ x ∧ x ≤ 2305843009213693952

theorem fit_len (a : Option Addr) (n cap : Nat) (w : World) (hs : n < 1 ∨ 256 < n) (hm : n ≤ 1048576) :
    Calls Try.prog 10 #[.slice a n cap] w fun e w' => e = .returned (.bool false) ∧ w = w' := by
  rcases hs with hs | hs
  all_goals
    go_enter Try.func10, Try.ntmps10
    go_wp2
    go_ret
    exact ⟨rfl, rfl⟩

theorem fit_yes (xs : List Int) (b off cap : Nat) (w : World) (hc : ∀ j, j < xs.length → w.cell? ⟨b, off + j, none⟩ = some (.int .i64 (xs.getD j 0))) (h1 : 1 ≤ xs.length) (h2 : xs.length ≤ 256) (hf : ∀ j, j < xs.length → Fit1 (xs.getD j 0)) :
    Calls Try.prog 10 #[.slice (some ⟨b, off, none⟩) xs.length cap] w fun e w' => e = .returned (.bool true) ∧ w = w' := by
  have HF : Hid (∀ j, j < xs.length → Fit1 (xs.getD j 0)) := hf
  clear hf
  go_enter Try.func10, Try.ntmps10
  go_wp2
  go_loop [3] (fun i => ∃ k : Nat, k ≤ xs.length ∧ i = .int .i64 k) (fun i => xs.length - (intOf i).toNat)
  case atStart => exact ⟨0, Nat.zero_le _, rfl⟩
  case round =>
    obtain ⟨k, hk, rfl⟩ := hrel
    by_cases hlt : k < xs.length
    · have hff := HF.out k hlt
      have hcell := hc k hlt
      clear hc
      generalize xs.getD k 0 = x at hff hcell
      unfold Fit1 at hff
      obtain ⟨f1, f2⟩ := hff
      go_wp2
      go_round
      case rel => exact ⟨k + 1, by omega, by go_num⟩
      case measure => simp [intOf]; omega
    · go_wp2
      go_ret
      exact ⟨rfl, rfl⟩

theorem fit_no (xs : List Int) (b off cap : Nat) (w : World) (hc : ∀ j, j < xs.length → w.cell? ⟨b, off + j, none⟩ = some (.int .i64 (xs.getD j 0))) (h1 : 1 ≤ xs.length) (h2 : xs.length ≤ 256) (hf : ¬ ∀ j, j < xs.length → Fit1 (xs.getD j 0)) :
    Calls Try.prog 10 #[.slice (some ⟨b, off, none⟩) xs.length cap] w fun e w' => e = .returned (.bool false) ∧ w = w' := by
  have HF : Hid (¬ ∀ j, j < xs.length → Fit1 (xs.getD j 0)) := hf
  clear hf
  go_enter Try.func10, Try.ntmps10
  go_wp2
  go_loop [3] (fun i => ∃ k : Nat, k ≤ xs.length ∧ i = .int .i64 k ∧ Hid (∀ j, j < k → Fit1 (xs.getD j 0))) (fun i => xs.length - (intOf i).toNat)
  case atStart => exact ⟨0, Nat.zero_le _, rfl, fun j hj => absurd hj (Nat.not_lt_zero _)⟩
  case round =>
    obtain ⟨k, hk, rfl, HG⟩ := hrel
    by_cases hlt : k < xs.length
    · have hcell := hc k hlt
      obtain ⟨x, hx⟩ : ∃ x, x = xs.getD k 0 := ⟨_, rfl⟩
      rw [← hx] at hcell
      have HX : Hid (x = xs.getD k 0) := hx
      clear hc hx
      by_cases f1 : x < -2305843009213693952
      · go_wp2
        go_ret
        exact ⟨rfl, rfl⟩
      · by_cases f2 : 2305843009213693952 < x
        · go_wp2
          go_ret
          exact ⟨rfl, rfl⟩
        · have HG2 : Hid (∀ j, j < k + 1 → Fit1 (xs.getD j 0)) := fun j hj => by
            by_cases hjk : j < k
            · exact HG.out j hjk
            · obtain rfl : j = k := by omega
              rw [← HX.out]; unfold Fit1; omega
          go_wp2
          go_round
          case rel => exact ⟨k + 1, by omega, by go_num, HG2⟩
          case measure => simp [intOf]; omega
    · exact absurd (fun j hj => HG.out j (by omega)) HF.out

set_option maxHeartbeats 1000000 in
theorem kth_any (xs : List Int) (g cap k : Nat) (w : World) (hc : ∀ j, j < xs.length → w.cell? ⟨g, j, none⟩ = some (.int .i64 (xs.getD j 0))) (h2 : xs.length ≤ 256) (hk : k < xs.length) :
    Calls Try.prog 12 #[.slice (some ⟨g, 0, none⟩) xs.length cap, .int .i64 k] w fun e w' => e = .returned (.int .i64 ((srt xs).getD k 0)) ∧ ∃ nq, w' = w.drewN nq := by
  go_enter Try.func12, Try.ntmps12
  go_wp2
  go_loopw [5] (fun i wr => ∃ p : Nat, p ≤ xs.length ∧ i = .int .i64 p ∧ Hid (∀ j, j < p → ¬ Ranks xs k (xs.getD j 0)) ∧ ∃ nq, wr = w.drewN nq) (fun i _ => xs.length - (intOf i).toNat)
  case atStart => exact ⟨0, Nat.zero_le _, rfl, fun j hj => absurd hj (Nat.not_lt_zero _), 0, rfl⟩
  case round =>
    obtain ⟨p, hp, rfl, HP, nq, rfl⟩ := hrel
    by_cases hlt : p < xs.length
    · obtain ⟨x, hx⟩ : ∃ x, x = xs.getD p 0 := ⟨_, rfl⟩
      have hcellp := hc p hlt
      rw [← hx] at hcellp
      have HX : Hid (x = xs.getD p 0) := hx
      clear hx
      go_wp2
      go_loopw [6, 7, 8] (fun l e i wr => ∃ j : Nat, j ≤ xs.length ∧ i = .int .i64 j ∧ l = .int .i64 (lts x (xs.take j)) ∧ e = .int .i64 (eqs x (xs.take j)) ∧ ∃ nq, wr = w.drewN nq) (fun _ _ i _ => xs.length - (intOf i).toNat)
      case atStart => exact ⟨0, Nat.zero_le _, rfl, rfl, rfl, nq, rfl⟩
      case round =>
        obtain ⟨j, hj, rfl, rfl, rfl, nq2, rfl⟩ := hrel
        have hl1 := lts_len x (xs.take j)
        have hl2 := eqs_len x (xs.take j)
        have hl3 : (xs.take j).length ≤ j := List.length_take_le _ _
        by_cases hjt : j < xs.length
        · have hcellj := hc j hjt
          obtain ⟨y, hy⟩ : ∃ y, y = xs.getD j 0 := ⟨_, rfl⟩
          rw [← hy] at hcellj
          have HS : Hid (lts x (xs.take (j + 1)) = lts x (xs.take j) + (if y < x then 1 else 0) ∧ eqs x (xs.take (j + 1)) = eqs x (xs.take j) + (if y = x then 1 else 0)) := by
            unfold Hid
            rw [take_snoc xs j hjt, ← hy, lts_snoc, eqs_snoc]
            exact ⟨rfl, rfl⟩
          have hb1 : (j : Int) < (xs.length : Int) := by omega
          have hb2 : (p : Int) < (xs.length : Int) := by omega
          clear hy hc
          generalize lts x (xs.take j) = L at *
          generalize eqs x (xs.take j) = E at *
          by_cases c1 : y < x
          · have e1 : (y == x) = false := by rw [beq_eq_false_iff_ne]; omega
            go_wp2
            go_quiet (fail)
            go_wp2
            go_quiet (fail)
            go_wp2
            go_roundw
            case rel => exact ⟨j + 1, by omega, by go_num, by rw [HS.out.1, if_pos c1]; go_num, by rw [HS.out.2, if_neg (by omega)]; go_num, _, rfl⟩
            case measure => simp [intOf]; omega
          · by_cases c2 : y = x
            · have e1 : (y == x) = true := by rw [beq_iff_eq]; exact c2
              have C2 : Hid (y = x) := c2
              clear c2
              go_wp2
              go_quiet (fail)
              go_wp2
              go_quiet (fail)
              go_wp2
              go_roundw
              case rel => exact ⟨j + 1, by omega, by go_num, by rw [HS.out.1, if_neg (by have := C2.out; omega)]; go_num, by rw [HS.out.2, if_pos C2.out]; go_num, _, rfl⟩
              case measure => simp [intOf]; omega
            · have e1 : (y == x) = false := by rw [beq_eq_false_iff_ne]; exact c2
              have C2 : Hid (¬ y = x) := c2
              clear c2
              go_wp2
              go_quiet (fail)
              go_wp2
              go_quiet (fail)
              go_wp2
              go_roundw
              case rel => exact ⟨j + 1, by omega, by go_num, by rw [HS.out.1, if_neg (by omega)]; go_num, by rw [HS.out.2, if_neg C2.out]; go_num, _, rfl⟩
              case measure => simp [intOf]; omega
        · have htk : xs.take j = xs := List.take_of_length_le (by omega)
          rw [htk] at hl1 hl2 ⊢
          clear htk hc
          by_cases hrk : Ranks xs k x
          · have HV := ranks_val xs k x hk hrk
            have HVV : Hid (x = (srt xs).getD k 0) := HV
            clear HV
            unfold Ranks at hrk
            obtain ⟨r1, r2⟩ := hrk
            generalize lts x xs = L at *
            generalize eqs x xs = E at *
            go_wp2
            go_ret
            exact ⟨ret_int HVV.out, _, rfl⟩
          · have HP2 : Hid (∀ i, i < p + 1 → ¬ Ranks xs k (xs.getD i 0)) := fun i hi => by
              by_cases hip : i < p
              · exact HP.out i hip
              · obtain rfl : i = p := by omega
                rw [← HX.out]; exact hrk
            unfold Ranks at hrk
            generalize lts x xs = L at *
            generalize eqs x xs = E at *
            by_cases r1 : L ≤ k
            · have r2 : ¬ k < L + E := fun h => hrk ⟨r1, h⟩
              clear hrk
              go_wp2
              go_roundw
              case rel => exact ⟨p + 1, by omega, by go_num, HP2, _, rfl⟩
              case measure => simp [intOf]; omega
            · clear hrk
              go_wp2
              go_roundw
              case rel => exact ⟨p + 1, by omega, by go_num, HP2, _, rfl⟩
              case measure => simp [intOf]; omega
    · exfalso
      obtain ⟨i, hi, hr⟩ := ranks_some xs k hk
      exact HP.out i (by omega) hr
end Go.Proofs.Qxb6002396a
