/- The walk of utf8Step: it steps as the model's own decoding does. -/
import Derived.Test.Qxb6001775aFmtProg
import Derived.Test.Qxb6001775aFmtStepPlain
import Derived.WalkKit
import Derived.Below
namespace Go.Proofs.Qxb6001775aFmt
open Go.RowKit

theorem ret_int {k : IntKind} {a b : Int} (h : a = b) : Ending.returned (.int k a) = .returned (.int k b) := by rw [h]

set_option maxRecDepth 100000 in
theorem st_low (s : ByteArray) (i : Nat) (w : World) (hi : i < s.size) (hb : ¬ 128 ≤ (s[i].toNat : Int)) :
    Calls Tryf.prog 14 #[.string s, .int .i64 i] w fun e w' => e = .returned (.int .i64 1) ∧ w' = w := by
  go_enter Tryf.func14, Tryf.ntmps14
  go_wp2
  go_ret
  exact ⟨rfl, rfl⟩

set_option maxRecDepth 100000 in
theorem st_bad (s : ByteArray) (i : Nat) (w : World) (hi : i < s.size) (hb : 128 ≤ (s[i].toNat : Int)) (hc : (s[i].toNat : Int) < 194 ∨ 245 ≤ (s[i].toNat : Int)) :
    Calls Tryf.prog 14 #[.string s, .int .i64 i] w fun e w' => e = .returned (.int .i64 1) ∧ w' = w := by
  have E1 : ((s[i].toNat : Int) == 224) = false := by rw [beq_eq_false_iff_ne]; omega
  have E2 : ((s[i].toNat : Int) == 237) = false := by rw [beq_eq_false_iff_ne]; omega
  have E3 : ((s[i].toNat : Int) == 238) = false := by rw [beq_eq_false_iff_ne]; omega
  have E4 : ((s[i].toNat : Int) == 239) = false := by rw [beq_eq_false_iff_ne]; omega
  have E5 : ((s[i].toNat : Int) == 240) = false := by rw [beq_eq_false_iff_ne]; omega
  have E6 : ((s[i].toNat : Int) == 244) = false := by rw [beq_eq_false_iff_ne]; omega
  rcases hc with hc | hc
  all_goals
    go_enter Tryf.func14, Tryf.ntmps14
    go_wp2
    go_ret
    exact ⟨rfl, rfl⟩

set_option maxRecDepth 100000 in
set_option maxHeartbeats 1000000 in
theorem st_c2 (s : ByteArray) (i : Nat) (w : World) (hs : s.size ≤ 1048576) (hi : i < s.size) (hl : 194 ≤ (s[i].toNat : Int)) (hh : (s[i].toNat : Int) ≤ 223) :
    Calls Tryf.prog 14 #[.string s, .int .i64 i] w fun e w' => e = .returned (.int .i64 (stepOf s i 2 128 191 : Nat)) ∧ w' = w := by
  have E0 : ((s[i].toNat : Int) == 224) = false := by rw [beq_eq_false_iff_ne]; omega
  have E1 : ((s[i].toNat : Int) == 237) = false := by rw [beq_eq_false_iff_ne]; omega
  have E2 : ((s[i].toNat : Int) == 238) = false := by rw [beq_eq_false_iff_ne]; omega
  have E3 : ((s[i].toNat : Int) == 239) = false := by rw [beq_eq_false_iff_ne]; omega
  have E4 : ((s[i].toNat : Int) == 240) = false := by rw [beq_eq_false_iff_ne]; omega
  have E5 : ((s[i].toNat : Int) == 244) = false := by rw [beq_eq_false_iff_ne]; omega
  by_cases hsz : s.size < i + 2
  · have HS : Hid (stepOf s i 2 128 191 = 1) := stepOf_short _ _ _ _ _ hsz
    go_enter Tryf.func14, Tryf.ntmps14
    go_wp2
    go_ret
    exact ⟨ret_int (by rw [HS.out]; rfl), rfl⟩
  · have hi1 : i + 1 < s.size := by omega
    have B1 : Hid (bAt s (i + 1) = (s[i + 1]).toNat) := bAt_get s (i + 1) hi1
    by_cases hb1 : (s[i + 1].toNat : Int) < 128
    · have HS : Hid (stepOf s i 2 128 191 = 1) := stepOf_b1 _ _ _ _ _ (by rw [B1.out]; omega)
      go_enter Tryf.func14, Tryf.ntmps14
      go_wp2
      go_ret
      exact ⟨ret_int (by rw [HS.out]; rfl), rfl⟩
    · by_cases hb2 : 191 < (s[i + 1].toNat : Int)
      · have HS : Hid (stepOf s i 2 128 191 = 1) := stepOf_b1 _ _ _ _ _ (by rw [B1.out]; omega)
        go_enter Tryf.func14, Tryf.ntmps14
        go_wp2
        go_ret
        exact ⟨ret_int (by rw [HS.out]; rfl), rfl⟩
      · go_enter Tryf.func14, Tryf.ntmps14
        go_wp2
        go_loop [10] (fun k => ∃ j : Nat, 2 ≤ j ∧ j ≤ 2 ∧ k = .int .i64 j ∧ Hid (∀ m, m < j → 2 ≤ m → 128 ≤ bAt s (i + m) ∧ bAt s (i + m) ≤ 191)) (fun k => 2 - (intOf k).toNat)
        case atStart => exact ⟨2, by omega, by omega, rfl, fun m h1 h2 => by omega⟩
        case round =>
          obtain ⟨j, hj2, hjn, rfl, HA⟩ := hrel
          obtain rfl : j = 2 := by omega
          have HS : Hid (stepOf s i 2 128 191 = 2) := stepOf_ok _ _ _ _ _ hsz (by rw [B1.out]; omega) (fun m h1 h2 => HA.out m (by omega) h2)
          go_wp2
          go_ret
          exact ⟨ret_int (by rw [HS.out]; rfl), rfl⟩

set_option maxRecDepth 100000 in
set_option maxHeartbeats 1000000 in
theorem st_c3a (s : ByteArray) (i : Nat) (w : World) (hs : s.size ≤ 1048576) (hi : i < s.size) (hl : 224 ≤ (s[i].toNat : Int)) (hh : (s[i].toNat : Int) ≤ 224) :
    Calls Tryf.prog 14 #[.string s, .int .i64 i] w fun e w' => e = .returned (.int .i64 (stepOf s i 3 160 191 : Nat)) ∧ w' = w := by
  have E0 : ((s[i].toNat : Int) == 224) = true := by rw [beq_iff_eq]; omega
  have E1 : ((s[i].toNat : Int) == 237) = false := by rw [beq_eq_false_iff_ne]; omega
  have E2 : ((s[i].toNat : Int) == 238) = false := by rw [beq_eq_false_iff_ne]; omega
  have E3 : ((s[i].toNat : Int) == 239) = false := by rw [beq_eq_false_iff_ne]; omega
  have E4 : ((s[i].toNat : Int) == 240) = false := by rw [beq_eq_false_iff_ne]; omega
  have E5 : ((s[i].toNat : Int) == 244) = false := by rw [beq_eq_false_iff_ne]; omega
  by_cases hsz : s.size < i + 3
  · have HS : Hid (stepOf s i 3 160 191 = 1) := stepOf_short _ _ _ _ _ hsz
    go_enter Tryf.func14, Tryf.ntmps14
    go_wp2
    go_ret
    exact ⟨ret_int (by rw [HS.out]; rfl), rfl⟩
  · have hi1 : i + 1 < s.size := by omega
    have B1 : Hid (bAt s (i + 1) = (s[i + 1]).toNat) := bAt_get s (i + 1) hi1
    by_cases hb1 : (s[i + 1].toNat : Int) < 160
    · have HS : Hid (stepOf s i 3 160 191 = 1) := stepOf_b1 _ _ _ _ _ (by rw [B1.out]; omega)
      go_enter Tryf.func14, Tryf.ntmps14
      go_wp2
      go_ret
      exact ⟨ret_int (by rw [HS.out]; rfl), rfl⟩
    · by_cases hb2 : 191 < (s[i + 1].toNat : Int)
      · have HS : Hid (stepOf s i 3 160 191 = 1) := stepOf_b1 _ _ _ _ _ (by rw [B1.out]; omega)
        go_enter Tryf.func14, Tryf.ntmps14
        go_wp2
        go_ret
        exact ⟨ret_int (by rw [HS.out]; rfl), rfl⟩
      · go_enter Tryf.func14, Tryf.ntmps14
        go_wp2
        go_loop [10] (fun k => ∃ j : Nat, 2 ≤ j ∧ j ≤ 3 ∧ k = .int .i64 j ∧ Hid (∀ m, m < j → 2 ≤ m → 128 ≤ bAt s (i + m) ∧ bAt s (i + m) ≤ 191)) (fun k => 3 - (intOf k).toNat)
        case atStart => exact ⟨2, by omega, by omega, rfl, fun m h1 h2 => by omega⟩
        case round =>
          obtain ⟨j, hj2, hjn, rfl, HA⟩ := hrel
          by_cases hlt : j < 3
          · have hij : i + j < s.size := by omega
            have BJ : Hid (bAt s (i + j) = (s[i + j]).toNat) := bAt_get s (i + j) hij
            by_cases hc1 : (s[i + j].toNat : Int) < 128
            · have HS : Hid (stepOf s i 3 160 191 = 1) := stepOf_bad _ _ _ _ _ j hlt hj2 (by rw [BJ.out]; omega)
              go_wp2
              go_ret
              exact ⟨ret_int (by rw [HS.out]; rfl), rfl⟩
            · by_cases hc2 : 191 < (s[i + j].toNat : Int)
              · have HS : Hid (stepOf s i 3 160 191 = 1) := stepOf_bad _ _ _ _ _ j hlt hj2 (by rw [BJ.out]; omega)
                go_wp2
                go_ret
                exact ⟨ret_int (by rw [HS.out]; rfl), rfl⟩
              · go_wp2
                go_round
                case rel =>
                  refine ⟨j + 1, by omega, by omega, by go_num, fun m h1 h2 => ?_⟩
                  by_cases hm : m < j
                  · exact HA.out m hm h2
                  · obtain rfl : m = j := by omega
                    rw [BJ.out]; omega
                case measure => simp [intOf]; omega
          · have HS : Hid (stepOf s i 3 160 191 = 3) := stepOf_ok _ _ _ _ _ hsz (by rw [B1.out]; omega) (fun m h1 h2 => HA.out m (by omega) h2)
            go_wp2
            go_ret
            exact ⟨ret_int (by rw [HS.out]; rfl), rfl⟩

set_option maxRecDepth 100000 in
set_option maxHeartbeats 1000000 in
theorem st_c3b (s : ByteArray) (i : Nat) (w : World) (hs : s.size ≤ 1048576) (hi : i < s.size) (hl : 225 ≤ (s[i].toNat : Int)) (hh : (s[i].toNat : Int) ≤ 236) :
    Calls Tryf.prog 14 #[.string s, .int .i64 i] w fun e w' => e = .returned (.int .i64 (stepOf s i 3 128 191 : Nat)) ∧ w' = w := by
  have E0 : ((s[i].toNat : Int) == 224) = false := by rw [beq_eq_false_iff_ne]; omega
  have E1 : ((s[i].toNat : Int) == 237) = false := by rw [beq_eq_false_iff_ne]; omega
  have E2 : ((s[i].toNat : Int) == 238) = false := by rw [beq_eq_false_iff_ne]; omega
  have E3 : ((s[i].toNat : Int) == 239) = false := by rw [beq_eq_false_iff_ne]; omega
  have E4 : ((s[i].toNat : Int) == 240) = false := by rw [beq_eq_false_iff_ne]; omega
  have E5 : ((s[i].toNat : Int) == 244) = false := by rw [beq_eq_false_iff_ne]; omega
  by_cases hsz : s.size < i + 3
  · have HS : Hid (stepOf s i 3 128 191 = 1) := stepOf_short _ _ _ _ _ hsz
    go_enter Tryf.func14, Tryf.ntmps14
    go_wp2
    go_ret
    exact ⟨ret_int (by rw [HS.out]; rfl), rfl⟩
  · have hi1 : i + 1 < s.size := by omega
    have B1 : Hid (bAt s (i + 1) = (s[i + 1]).toNat) := bAt_get s (i + 1) hi1
    by_cases hb1 : (s[i + 1].toNat : Int) < 128
    · have HS : Hid (stepOf s i 3 128 191 = 1) := stepOf_b1 _ _ _ _ _ (by rw [B1.out]; omega)
      go_enter Tryf.func14, Tryf.ntmps14
      go_wp2
      go_ret
      exact ⟨ret_int (by rw [HS.out]; rfl), rfl⟩
    · by_cases hb2 : 191 < (s[i + 1].toNat : Int)
      · have HS : Hid (stepOf s i 3 128 191 = 1) := stepOf_b1 _ _ _ _ _ (by rw [B1.out]; omega)
        go_enter Tryf.func14, Tryf.ntmps14
        go_wp2
        go_ret
        exact ⟨ret_int (by rw [HS.out]; rfl), rfl⟩
      · go_enter Tryf.func14, Tryf.ntmps14
        go_wp2
        go_loop [10] (fun k => ∃ j : Nat, 2 ≤ j ∧ j ≤ 3 ∧ k = .int .i64 j ∧ Hid (∀ m, m < j → 2 ≤ m → 128 ≤ bAt s (i + m) ∧ bAt s (i + m) ≤ 191)) (fun k => 3 - (intOf k).toNat)
        case atStart => exact ⟨2, by omega, by omega, rfl, fun m h1 h2 => by omega⟩
        case round =>
          obtain ⟨j, hj2, hjn, rfl, HA⟩ := hrel
          by_cases hlt : j < 3
          · have hij : i + j < s.size := by omega
            have BJ : Hid (bAt s (i + j) = (s[i + j]).toNat) := bAt_get s (i + j) hij
            by_cases hc1 : (s[i + j].toNat : Int) < 128
            · have HS : Hid (stepOf s i 3 128 191 = 1) := stepOf_bad _ _ _ _ _ j hlt hj2 (by rw [BJ.out]; omega)
              go_wp2
              go_ret
              exact ⟨ret_int (by rw [HS.out]; rfl), rfl⟩
            · by_cases hc2 : 191 < (s[i + j].toNat : Int)
              · have HS : Hid (stepOf s i 3 128 191 = 1) := stepOf_bad _ _ _ _ _ j hlt hj2 (by rw [BJ.out]; omega)
                go_wp2
                go_ret
                exact ⟨ret_int (by rw [HS.out]; rfl), rfl⟩
              · go_wp2
                go_round
                case rel =>
                  refine ⟨j + 1, by omega, by omega, by go_num, fun m h1 h2 => ?_⟩
                  by_cases hm : m < j
                  · exact HA.out m hm h2
                  · obtain rfl : m = j := by omega
                    rw [BJ.out]; omega
                case measure => simp [intOf]; omega
          · have HS : Hid (stepOf s i 3 128 191 = 3) := stepOf_ok _ _ _ _ _ hsz (by rw [B1.out]; omega) (fun m h1 h2 => HA.out m (by omega) h2)
            go_wp2
            go_ret
            exact ⟨ret_int (by rw [HS.out]; rfl), rfl⟩

set_option maxRecDepth 100000 in
set_option maxHeartbeats 1000000 in
theorem st_c3c (s : ByteArray) (i : Nat) (w : World) (hs : s.size ≤ 1048576) (hi : i < s.size) (hl : 237 ≤ (s[i].toNat : Int)) (hh : (s[i].toNat : Int) ≤ 237) :
    Calls Tryf.prog 14 #[.string s, .int .i64 i] w fun e w' => e = .returned (.int .i64 (stepOf s i 3 128 159 : Nat)) ∧ w' = w := by
  have E0 : ((s[i].toNat : Int) == 224) = false := by rw [beq_eq_false_iff_ne]; omega
  have E1 : ((s[i].toNat : Int) == 237) = true := by rw [beq_iff_eq]; omega
  have E2 : ((s[i].toNat : Int) == 238) = false := by rw [beq_eq_false_iff_ne]; omega
  have E3 : ((s[i].toNat : Int) == 239) = false := by rw [beq_eq_false_iff_ne]; omega
  have E4 : ((s[i].toNat : Int) == 240) = false := by rw [beq_eq_false_iff_ne]; omega
  have E5 : ((s[i].toNat : Int) == 244) = false := by rw [beq_eq_false_iff_ne]; omega
  by_cases hsz : s.size < i + 3
  · have HS : Hid (stepOf s i 3 128 159 = 1) := stepOf_short _ _ _ _ _ hsz
    go_enter Tryf.func14, Tryf.ntmps14
    go_wp2
    go_ret
    exact ⟨ret_int (by rw [HS.out]; rfl), rfl⟩
  · have hi1 : i + 1 < s.size := by omega
    have B1 : Hid (bAt s (i + 1) = (s[i + 1]).toNat) := bAt_get s (i + 1) hi1
    by_cases hb1 : (s[i + 1].toNat : Int) < 128
    · have HS : Hid (stepOf s i 3 128 159 = 1) := stepOf_b1 _ _ _ _ _ (by rw [B1.out]; omega)
      go_enter Tryf.func14, Tryf.ntmps14
      go_wp2
      go_ret
      exact ⟨ret_int (by rw [HS.out]; rfl), rfl⟩
    · by_cases hb2 : 159 < (s[i + 1].toNat : Int)
      · have HS : Hid (stepOf s i 3 128 159 = 1) := stepOf_b1 _ _ _ _ _ (by rw [B1.out]; omega)
        go_enter Tryf.func14, Tryf.ntmps14
        go_wp2
        go_ret
        exact ⟨ret_int (by rw [HS.out]; rfl), rfl⟩
      · go_enter Tryf.func14, Tryf.ntmps14
        go_wp2
        go_loop [10] (fun k => ∃ j : Nat, 2 ≤ j ∧ j ≤ 3 ∧ k = .int .i64 j ∧ Hid (∀ m, m < j → 2 ≤ m → 128 ≤ bAt s (i + m) ∧ bAt s (i + m) ≤ 191)) (fun k => 3 - (intOf k).toNat)
        case atStart => exact ⟨2, by omega, by omega, rfl, fun m h1 h2 => by omega⟩
        case round =>
          obtain ⟨j, hj2, hjn, rfl, HA⟩ := hrel
          by_cases hlt : j < 3
          · have hij : i + j < s.size := by omega
            have BJ : Hid (bAt s (i + j) = (s[i + j]).toNat) := bAt_get s (i + j) hij
            by_cases hc1 : (s[i + j].toNat : Int) < 128
            · have HS : Hid (stepOf s i 3 128 159 = 1) := stepOf_bad _ _ _ _ _ j hlt hj2 (by rw [BJ.out]; omega)
              go_wp2
              go_ret
              exact ⟨ret_int (by rw [HS.out]; rfl), rfl⟩
            · by_cases hc2 : 191 < (s[i + j].toNat : Int)
              · have HS : Hid (stepOf s i 3 128 159 = 1) := stepOf_bad _ _ _ _ _ j hlt hj2 (by rw [BJ.out]; omega)
                go_wp2
                go_ret
                exact ⟨ret_int (by rw [HS.out]; rfl), rfl⟩
              · go_wp2
                go_round
                case rel =>
                  refine ⟨j + 1, by omega, by omega, by go_num, fun m h1 h2 => ?_⟩
                  by_cases hm : m < j
                  · exact HA.out m hm h2
                  · obtain rfl : m = j := by omega
                    rw [BJ.out]; omega
                case measure => simp [intOf]; omega
          · have HS : Hid (stepOf s i 3 128 159 = 3) := stepOf_ok _ _ _ _ _ hsz (by rw [B1.out]; omega) (fun m h1 h2 => HA.out m (by omega) h2)
            go_wp2
            go_ret
            exact ⟨ret_int (by rw [HS.out]; rfl), rfl⟩

set_option maxRecDepth 100000 in
set_option maxHeartbeats 1000000 in
theorem st_c3d (s : ByteArray) (i : Nat) (w : World) (hs : s.size ≤ 1048576) (hi : i < s.size) (hl : 238 ≤ (s[i].toNat : Int)) (hh : (s[i].toNat : Int) ≤ 238) :
    Calls Tryf.prog 14 #[.string s, .int .i64 i] w fun e w' => e = .returned (.int .i64 (stepOf s i 3 128 191 : Nat)) ∧ w' = w := by
  have E0 : ((s[i].toNat : Int) == 224) = false := by rw [beq_eq_false_iff_ne]; omega
  have E1 : ((s[i].toNat : Int) == 237) = false := by rw [beq_eq_false_iff_ne]; omega
  have E2 : ((s[i].toNat : Int) == 238) = true := by rw [beq_iff_eq]; omega
  have E3 : ((s[i].toNat : Int) == 239) = false := by rw [beq_eq_false_iff_ne]; omega
  have E4 : ((s[i].toNat : Int) == 240) = false := by rw [beq_eq_false_iff_ne]; omega
  have E5 : ((s[i].toNat : Int) == 244) = false := by rw [beq_eq_false_iff_ne]; omega
  by_cases hsz : s.size < i + 3
  · have HS : Hid (stepOf s i 3 128 191 = 1) := stepOf_short _ _ _ _ _ hsz
    go_enter Tryf.func14, Tryf.ntmps14
    go_wp2
    go_ret
    exact ⟨ret_int (by rw [HS.out]; rfl), rfl⟩
  · have hi1 : i + 1 < s.size := by omega
    have B1 : Hid (bAt s (i + 1) = (s[i + 1]).toNat) := bAt_get s (i + 1) hi1
    by_cases hb1 : (s[i + 1].toNat : Int) < 128
    · have HS : Hid (stepOf s i 3 128 191 = 1) := stepOf_b1 _ _ _ _ _ (by rw [B1.out]; omega)
      go_enter Tryf.func14, Tryf.ntmps14
      go_wp2
      go_ret
      exact ⟨ret_int (by rw [HS.out]; rfl), rfl⟩
    · by_cases hb2 : 191 < (s[i + 1].toNat : Int)
      · have HS : Hid (stepOf s i 3 128 191 = 1) := stepOf_b1 _ _ _ _ _ (by rw [B1.out]; omega)
        go_enter Tryf.func14, Tryf.ntmps14
        go_wp2
        go_ret
        exact ⟨ret_int (by rw [HS.out]; rfl), rfl⟩
      · go_enter Tryf.func14, Tryf.ntmps14
        go_wp2
        go_loop [10] (fun k => ∃ j : Nat, 2 ≤ j ∧ j ≤ 3 ∧ k = .int .i64 j ∧ Hid (∀ m, m < j → 2 ≤ m → 128 ≤ bAt s (i + m) ∧ bAt s (i + m) ≤ 191)) (fun k => 3 - (intOf k).toNat)
        case atStart => exact ⟨2, by omega, by omega, rfl, fun m h1 h2 => by omega⟩
        case round =>
          obtain ⟨j, hj2, hjn, rfl, HA⟩ := hrel
          by_cases hlt : j < 3
          · have hij : i + j < s.size := by omega
            have BJ : Hid (bAt s (i + j) = (s[i + j]).toNat) := bAt_get s (i + j) hij
            by_cases hc1 : (s[i + j].toNat : Int) < 128
            · have HS : Hid (stepOf s i 3 128 191 = 1) := stepOf_bad _ _ _ _ _ j hlt hj2 (by rw [BJ.out]; omega)
              go_wp2
              go_ret
              exact ⟨ret_int (by rw [HS.out]; rfl), rfl⟩
            · by_cases hc2 : 191 < (s[i + j].toNat : Int)
              · have HS : Hid (stepOf s i 3 128 191 = 1) := stepOf_bad _ _ _ _ _ j hlt hj2 (by rw [BJ.out]; omega)
                go_wp2
                go_ret
                exact ⟨ret_int (by rw [HS.out]; rfl), rfl⟩
              · go_wp2
                go_round
                case rel =>
                  refine ⟨j + 1, by omega, by omega, by go_num, fun m h1 h2 => ?_⟩
                  by_cases hm : m < j
                  · exact HA.out m hm h2
                  · obtain rfl : m = j := by omega
                    rw [BJ.out]; omega
                case measure => simp [intOf]; omega
          · have HS : Hid (stepOf s i 3 128 191 = 3) := stepOf_ok _ _ _ _ _ hsz (by rw [B1.out]; omega) (fun m h1 h2 => HA.out m (by omega) h2)
            go_wp2
            go_ret
            exact ⟨ret_int (by rw [HS.out]; rfl), rfl⟩

set_option maxRecDepth 100000 in
set_option maxHeartbeats 1000000 in
theorem st_c3e (s : ByteArray) (i : Nat) (w : World) (hs : s.size ≤ 1048576) (hi : i < s.size) (hl : 239 ≤ (s[i].toNat : Int)) (hh : (s[i].toNat : Int) ≤ 239) :
    Calls Tryf.prog 14 #[.string s, .int .i64 i] w fun e w' => e = .returned (.int .i64 (stepOf s i 3 128 191 : Nat)) ∧ w' = w := by
  have E0 : ((s[i].toNat : Int) == 224) = false := by rw [beq_eq_false_iff_ne]; omega
  have E1 : ((s[i].toNat : Int) == 237) = false := by rw [beq_eq_false_iff_ne]; omega
  have E2 : ((s[i].toNat : Int) == 238) = false := by rw [beq_eq_false_iff_ne]; omega
  have E3 : ((s[i].toNat : Int) == 239) = true := by rw [beq_iff_eq]; omega
  have E4 : ((s[i].toNat : Int) == 240) = false := by rw [beq_eq_false_iff_ne]; omega
  have E5 : ((s[i].toNat : Int) == 244) = false := by rw [beq_eq_false_iff_ne]; omega
  by_cases hsz : s.size < i + 3
  · have HS : Hid (stepOf s i 3 128 191 = 1) := stepOf_short _ _ _ _ _ hsz
    go_enter Tryf.func14, Tryf.ntmps14
    go_wp2
    go_ret
    exact ⟨ret_int (by rw [HS.out]; rfl), rfl⟩
  · have hi1 : i + 1 < s.size := by omega
    have B1 : Hid (bAt s (i + 1) = (s[i + 1]).toNat) := bAt_get s (i + 1) hi1
    by_cases hb1 : (s[i + 1].toNat : Int) < 128
    · have HS : Hid (stepOf s i 3 128 191 = 1) := stepOf_b1 _ _ _ _ _ (by rw [B1.out]; omega)
      go_enter Tryf.func14, Tryf.ntmps14
      go_wp2
      go_ret
      exact ⟨ret_int (by rw [HS.out]; rfl), rfl⟩
    · by_cases hb2 : 191 < (s[i + 1].toNat : Int)
      · have HS : Hid (stepOf s i 3 128 191 = 1) := stepOf_b1 _ _ _ _ _ (by rw [B1.out]; omega)
        go_enter Tryf.func14, Tryf.ntmps14
        go_wp2
        go_ret
        exact ⟨ret_int (by rw [HS.out]; rfl), rfl⟩
      · go_enter Tryf.func14, Tryf.ntmps14
        go_wp2
        go_loop [10] (fun k => ∃ j : Nat, 2 ≤ j ∧ j ≤ 3 ∧ k = .int .i64 j ∧ Hid (∀ m, m < j → 2 ≤ m → 128 ≤ bAt s (i + m) ∧ bAt s (i + m) ≤ 191)) (fun k => 3 - (intOf k).toNat)
        case atStart => exact ⟨2, by omega, by omega, rfl, fun m h1 h2 => by omega⟩
        case round =>
          obtain ⟨j, hj2, hjn, rfl, HA⟩ := hrel
          by_cases hlt : j < 3
          · have hij : i + j < s.size := by omega
            have BJ : Hid (bAt s (i + j) = (s[i + j]).toNat) := bAt_get s (i + j) hij
            by_cases hc1 : (s[i + j].toNat : Int) < 128
            · have HS : Hid (stepOf s i 3 128 191 = 1) := stepOf_bad _ _ _ _ _ j hlt hj2 (by rw [BJ.out]; omega)
              go_wp2
              go_ret
              exact ⟨ret_int (by rw [HS.out]; rfl), rfl⟩
            · by_cases hc2 : 191 < (s[i + j].toNat : Int)
              · have HS : Hid (stepOf s i 3 128 191 = 1) := stepOf_bad _ _ _ _ _ j hlt hj2 (by rw [BJ.out]; omega)
                go_wp2
                go_ret
                exact ⟨ret_int (by rw [HS.out]; rfl), rfl⟩
              · go_wp2
                go_round
                case rel =>
                  refine ⟨j + 1, by omega, by omega, by go_num, fun m h1 h2 => ?_⟩
                  by_cases hm : m < j
                  · exact HA.out m hm h2
                  · obtain rfl : m = j := by omega
                    rw [BJ.out]; omega
                case measure => simp [intOf]; omega
          · have HS : Hid (stepOf s i 3 128 191 = 3) := stepOf_ok _ _ _ _ _ hsz (by rw [B1.out]; omega) (fun m h1 h2 => HA.out m (by omega) h2)
            go_wp2
            go_ret
            exact ⟨ret_int (by rw [HS.out]; rfl), rfl⟩

set_option maxRecDepth 100000 in
set_option maxHeartbeats 1000000 in
theorem st_c4a (s : ByteArray) (i : Nat) (w : World) (hs : s.size ≤ 1048576) (hi : i < s.size) (hl : 240 ≤ (s[i].toNat : Int)) (hh : (s[i].toNat : Int) ≤ 240) :
    Calls Tryf.prog 14 #[.string s, .int .i64 i] w fun e w' => e = .returned (.int .i64 (stepOf s i 4 144 191 : Nat)) ∧ w' = w := by
  have E0 : ((s[i].toNat : Int) == 224) = false := by rw [beq_eq_false_iff_ne]; omega
  have E1 : ((s[i].toNat : Int) == 237) = false := by rw [beq_eq_false_iff_ne]; omega
  have E2 : ((s[i].toNat : Int) == 238) = false := by rw [beq_eq_false_iff_ne]; omega
  have E3 : ((s[i].toNat : Int) == 239) = false := by rw [beq_eq_false_iff_ne]; omega
  have E4 : ((s[i].toNat : Int) == 240) = true := by rw [beq_iff_eq]; omega
  have E5 : ((s[i].toNat : Int) == 244) = false := by rw [beq_eq_false_iff_ne]; omega
  by_cases hsz : s.size < i + 4
  · have HS : Hid (stepOf s i 4 144 191 = 1) := stepOf_short _ _ _ _ _ hsz
    go_enter Tryf.func14, Tryf.ntmps14
    go_wp2
    go_ret
    exact ⟨ret_int (by rw [HS.out]; rfl), rfl⟩
  · have hi1 : i + 1 < s.size := by omega
    have B1 : Hid (bAt s (i + 1) = (s[i + 1]).toNat) := bAt_get s (i + 1) hi1
    by_cases hb1 : (s[i + 1].toNat : Int) < 144
    · have HS : Hid (stepOf s i 4 144 191 = 1) := stepOf_b1 _ _ _ _ _ (by rw [B1.out]; omega)
      go_enter Tryf.func14, Tryf.ntmps14
      go_wp2
      go_ret
      exact ⟨ret_int (by rw [HS.out]; rfl), rfl⟩
    · by_cases hb2 : 191 < (s[i + 1].toNat : Int)
      · have HS : Hid (stepOf s i 4 144 191 = 1) := stepOf_b1 _ _ _ _ _ (by rw [B1.out]; omega)
        go_enter Tryf.func14, Tryf.ntmps14
        go_wp2
        go_ret
        exact ⟨ret_int (by rw [HS.out]; rfl), rfl⟩
      · go_enter Tryf.func14, Tryf.ntmps14
        go_wp2
        go_loop [10] (fun k => ∃ j : Nat, 2 ≤ j ∧ j ≤ 4 ∧ k = .int .i64 j ∧ Hid (∀ m, m < j → 2 ≤ m → 128 ≤ bAt s (i + m) ∧ bAt s (i + m) ≤ 191)) (fun k => 4 - (intOf k).toNat)
        case atStart => exact ⟨2, by omega, by omega, rfl, fun m h1 h2 => by omega⟩
        case round =>
          obtain ⟨j, hj2, hjn, rfl, HA⟩ := hrel
          by_cases hlt : j < 4
          · have hij : i + j < s.size := by omega
            have BJ : Hid (bAt s (i + j) = (s[i + j]).toNat) := bAt_get s (i + j) hij
            by_cases hc1 : (s[i + j].toNat : Int) < 128
            · have HS : Hid (stepOf s i 4 144 191 = 1) := stepOf_bad _ _ _ _ _ j hlt hj2 (by rw [BJ.out]; omega)
              go_wp2
              go_ret
              exact ⟨ret_int (by rw [HS.out]; rfl), rfl⟩
            · by_cases hc2 : 191 < (s[i + j].toNat : Int)
              · have HS : Hid (stepOf s i 4 144 191 = 1) := stepOf_bad _ _ _ _ _ j hlt hj2 (by rw [BJ.out]; omega)
                go_wp2
                go_ret
                exact ⟨ret_int (by rw [HS.out]; rfl), rfl⟩
              · go_wp2
                go_round
                case rel =>
                  refine ⟨j + 1, by omega, by omega, by go_num, fun m h1 h2 => ?_⟩
                  by_cases hm : m < j
                  · exact HA.out m hm h2
                  · obtain rfl : m = j := by omega
                    rw [BJ.out]; omega
                case measure => simp [intOf]; omega
          · have HS : Hid (stepOf s i 4 144 191 = 4) := stepOf_ok _ _ _ _ _ hsz (by rw [B1.out]; omega) (fun m h1 h2 => HA.out m (by omega) h2)
            go_wp2
            go_ret
            exact ⟨ret_int (by rw [HS.out]; rfl), rfl⟩

set_option maxRecDepth 100000 in
set_option maxHeartbeats 1000000 in
theorem st_c4b (s : ByteArray) (i : Nat) (w : World) (hs : s.size ≤ 1048576) (hi : i < s.size) (hl : 241 ≤ (s[i].toNat : Int)) (hh : (s[i].toNat : Int) ≤ 243) :
    Calls Tryf.prog 14 #[.string s, .int .i64 i] w fun e w' => e = .returned (.int .i64 (stepOf s i 4 128 191 : Nat)) ∧ w' = w := by
  have E0 : ((s[i].toNat : Int) == 224) = false := by rw [beq_eq_false_iff_ne]; omega
  have E1 : ((s[i].toNat : Int) == 237) = false := by rw [beq_eq_false_iff_ne]; omega
  have E2 : ((s[i].toNat : Int) == 238) = false := by rw [beq_eq_false_iff_ne]; omega
  have E3 : ((s[i].toNat : Int) == 239) = false := by rw [beq_eq_false_iff_ne]; omega
  have E4 : ((s[i].toNat : Int) == 240) = false := by rw [beq_eq_false_iff_ne]; omega
  have E5 : ((s[i].toNat : Int) == 244) = false := by rw [beq_eq_false_iff_ne]; omega
  by_cases hsz : s.size < i + 4
  · have HS : Hid (stepOf s i 4 128 191 = 1) := stepOf_short _ _ _ _ _ hsz
    go_enter Tryf.func14, Tryf.ntmps14
    go_wp2
    go_ret
    exact ⟨ret_int (by rw [HS.out]; rfl), rfl⟩
  · have hi1 : i + 1 < s.size := by omega
    have B1 : Hid (bAt s (i + 1) = (s[i + 1]).toNat) := bAt_get s (i + 1) hi1
    by_cases hb1 : (s[i + 1].toNat : Int) < 128
    · have HS : Hid (stepOf s i 4 128 191 = 1) := stepOf_b1 _ _ _ _ _ (by rw [B1.out]; omega)
      go_enter Tryf.func14, Tryf.ntmps14
      go_wp2
      go_ret
      exact ⟨ret_int (by rw [HS.out]; rfl), rfl⟩
    · by_cases hb2 : 191 < (s[i + 1].toNat : Int)
      · have HS : Hid (stepOf s i 4 128 191 = 1) := stepOf_b1 _ _ _ _ _ (by rw [B1.out]; omega)
        go_enter Tryf.func14, Tryf.ntmps14
        go_wp2
        go_ret
        exact ⟨ret_int (by rw [HS.out]; rfl), rfl⟩
      · go_enter Tryf.func14, Tryf.ntmps14
        go_wp2
        go_loop [10] (fun k => ∃ j : Nat, 2 ≤ j ∧ j ≤ 4 ∧ k = .int .i64 j ∧ Hid (∀ m, m < j → 2 ≤ m → 128 ≤ bAt s (i + m) ∧ bAt s (i + m) ≤ 191)) (fun k => 4 - (intOf k).toNat)
        case atStart => exact ⟨2, by omega, by omega, rfl, fun m h1 h2 => by omega⟩
        case round =>
          obtain ⟨j, hj2, hjn, rfl, HA⟩ := hrel
          by_cases hlt : j < 4
          · have hij : i + j < s.size := by omega
            have BJ : Hid (bAt s (i + j) = (s[i + j]).toNat) := bAt_get s (i + j) hij
            by_cases hc1 : (s[i + j].toNat : Int) < 128
            · have HS : Hid (stepOf s i 4 128 191 = 1) := stepOf_bad _ _ _ _ _ j hlt hj2 (by rw [BJ.out]; omega)
              go_wp2
              go_ret
              exact ⟨ret_int (by rw [HS.out]; rfl), rfl⟩
            · by_cases hc2 : 191 < (s[i + j].toNat : Int)
              · have HS : Hid (stepOf s i 4 128 191 = 1) := stepOf_bad _ _ _ _ _ j hlt hj2 (by rw [BJ.out]; omega)
                go_wp2
                go_ret
                exact ⟨ret_int (by rw [HS.out]; rfl), rfl⟩
              · go_wp2
                go_round
                case rel =>
                  refine ⟨j + 1, by omega, by omega, by go_num, fun m h1 h2 => ?_⟩
                  by_cases hm : m < j
                  · exact HA.out m hm h2
                  · obtain rfl : m = j := by omega
                    rw [BJ.out]; omega
                case measure => simp [intOf]; omega
          · have HS : Hid (stepOf s i 4 128 191 = 4) := stepOf_ok _ _ _ _ _ hsz (by rw [B1.out]; omega) (fun m h1 h2 => HA.out m (by omega) h2)
            go_wp2
            go_ret
            exact ⟨ret_int (by rw [HS.out]; rfl), rfl⟩

set_option maxRecDepth 100000 in
set_option maxHeartbeats 1000000 in
theorem st_c4c (s : ByteArray) (i : Nat) (w : World) (hs : s.size ≤ 1048576) (hi : i < s.size) (hl : 244 ≤ (s[i].toNat : Int)) (hh : (s[i].toNat : Int) ≤ 244) :
    Calls Tryf.prog 14 #[.string s, .int .i64 i] w fun e w' => e = .returned (.int .i64 (stepOf s i 4 128 143 : Nat)) ∧ w' = w := by
  have E0 : ((s[i].toNat : Int) == 224) = false := by rw [beq_eq_false_iff_ne]; omega
  have E1 : ((s[i].toNat : Int) == 237) = false := by rw [beq_eq_false_iff_ne]; omega
  have E2 : ((s[i].toNat : Int) == 238) = false := by rw [beq_eq_false_iff_ne]; omega
  have E3 : ((s[i].toNat : Int) == 239) = false := by rw [beq_eq_false_iff_ne]; omega
  have E4 : ((s[i].toNat : Int) == 240) = false := by rw [beq_eq_false_iff_ne]; omega
  have E5 : ((s[i].toNat : Int) == 244) = true := by rw [beq_iff_eq]; omega
  by_cases hsz : s.size < i + 4
  · have HS : Hid (stepOf s i 4 128 143 = 1) := stepOf_short _ _ _ _ _ hsz
    go_enter Tryf.func14, Tryf.ntmps14
    go_wp2
    go_ret
    exact ⟨ret_int (by rw [HS.out]; rfl), rfl⟩
  · have hi1 : i + 1 < s.size := by omega
    have B1 : Hid (bAt s (i + 1) = (s[i + 1]).toNat) := bAt_get s (i + 1) hi1
    by_cases hb1 : (s[i + 1].toNat : Int) < 128
    · have HS : Hid (stepOf s i 4 128 143 = 1) := stepOf_b1 _ _ _ _ _ (by rw [B1.out]; omega)
      go_enter Tryf.func14, Tryf.ntmps14
      go_wp2
      go_ret
      exact ⟨ret_int (by rw [HS.out]; rfl), rfl⟩
    · by_cases hb2 : 143 < (s[i + 1].toNat : Int)
      · have HS : Hid (stepOf s i 4 128 143 = 1) := stepOf_b1 _ _ _ _ _ (by rw [B1.out]; omega)
        go_enter Tryf.func14, Tryf.ntmps14
        go_wp2
        go_ret
        exact ⟨ret_int (by rw [HS.out]; rfl), rfl⟩
      · go_enter Tryf.func14, Tryf.ntmps14
        go_wp2
        go_loop [10] (fun k => ∃ j : Nat, 2 ≤ j ∧ j ≤ 4 ∧ k = .int .i64 j ∧ Hid (∀ m, m < j → 2 ≤ m → 128 ≤ bAt s (i + m) ∧ bAt s (i + m) ≤ 191)) (fun k => 4 - (intOf k).toNat)
        case atStart => exact ⟨2, by omega, by omega, rfl, fun m h1 h2 => by omega⟩
        case round =>
          obtain ⟨j, hj2, hjn, rfl, HA⟩ := hrel
          by_cases hlt : j < 4
          · have hij : i + j < s.size := by omega
            have BJ : Hid (bAt s (i + j) = (s[i + j]).toNat) := bAt_get s (i + j) hij
            by_cases hc1 : (s[i + j].toNat : Int) < 128
            · have HS : Hid (stepOf s i 4 128 143 = 1) := stepOf_bad _ _ _ _ _ j hlt hj2 (by rw [BJ.out]; omega)
              go_wp2
              go_ret
              exact ⟨ret_int (by rw [HS.out]; rfl), rfl⟩
            · by_cases hc2 : 191 < (s[i + j].toNat : Int)
              · have HS : Hid (stepOf s i 4 128 143 = 1) := stepOf_bad _ _ _ _ _ j hlt hj2 (by rw [BJ.out]; omega)
                go_wp2
                go_ret
                exact ⟨ret_int (by rw [HS.out]; rfl), rfl⟩
              · go_wp2
                go_round
                case rel =>
                  refine ⟨j + 1, by omega, by omega, by go_num, fun m h1 h2 => ?_⟩
                  by_cases hm : m < j
                  · exact HA.out m hm h2
                  · obtain rfl : m = j := by omega
                    rw [BJ.out]; omega
                case measure => simp [intOf]; omega
          · have HS : Hid (stepOf s i 4 128 143 = 4) := stepOf_ok _ _ _ _ _ hsz (by rw [B1.out]; omega) (fun m h1 h2 => HA.out m (by omega) h2)
            go_wp2
            go_ret
            exact ⟨ret_int (by rw [HS.out]; rfl), rfl⟩

theorem step_any (s : ByteArray) (i : Nat) (w : World) (hs : s.size ≤ 1048576) (hi : i < s.size) :
    Calls Tryf.prog 14 #[.string s, .int .i64 i] w fun e w' => e = .returned (.int .i64 ((Utf8.decode s i).2 : Nat)) ∧ w' = w := by
  have hb := bAt_get s i hi
  have hx := bAt_lt s i
  by_cases h0 : bAt s i < 128
  · rw [step1_low s i h0]; exact st_low s i w hi (by omega)
  by_cases h1 : bAt s i < 194 ∨ 245 ≤ bAt s i
  · rw [step1_bad s i (by omega) h1]; exact st_bad s i w hi (by omega) (by omega)
  by_cases h2 : bAt s i ≤ 223
  · rw [step2 s i (by omega) h2]; exact st_c2 s i w hs hi (by omega) (by omega)
  by_cases h3 : bAt s i ≤ 224
  · rw [step3 s i 160 191 (by omega) (by omega) (by rw [if_pos (by omega)]) (by rw [if_neg (by omega)])]; exact st_c3a s i w hs hi (by omega) (by omega)
  by_cases h4 : bAt s i ≤ 236
  · rw [step3 s i 128 191 (by omega) (by omega) (by rw [if_neg (by omega)]) (by rw [if_neg (by omega)])]; exact st_c3b s i w hs hi (by omega) (by omega)
  by_cases h5 : bAt s i ≤ 237
  · rw [step3 s i 128 159 (by omega) (by omega) (by rw [if_neg (by omega)]) (by rw [if_pos (by omega)])]; exact st_c3c s i w hs hi (by omega) (by omega)
  by_cases h5' : bAt s i ≤ 238
  · rw [step3 s i 128 191 (by omega) (by omega) (by rw [if_neg (by omega)]) (by rw [if_neg (by omega)])]; exact st_c3d s i w hs hi (by omega) (by omega)
  by_cases h6 : bAt s i ≤ 239
  · rw [step3 s i 128 191 (by omega) (by omega) (by rw [if_neg (by omega)]) (by rw [if_neg (by omega)])]; exact st_c3e s i w hs hi (by omega) (by omega)
  by_cases h7 : bAt s i ≤ 240
  · rw [step4 s i 144 191 (by omega) (by omega) (by rw [if_pos (by omega)]) (by rw [if_neg (by omega)])]; exact st_c4a s i w hs hi (by omega) (by omega)
  by_cases h8 : bAt s i ≤ 243
  · rw [step4 s i 128 191 (by omega) (by omega) (by rw [if_neg (by omega)]) (by rw [if_neg (by omega)])]; exact st_c4b s i w hs hi (by omega) (by omega)
  · rw [step4 s i 128 143 (by omega) (by omega) (by rw [if_neg (by omega)]) (by rw [if_pos (by omega)])]; exact st_c4c s i w hs hi (by omega) (by omega)
end Go.Proofs.Qxb6001775aFmt
