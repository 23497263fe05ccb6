/- The walk of utf16.decode and utf16.Decode: the runes of the units. -/
import Derived.Test.Qxb6002374aRune
namespace Go.Proofs.Qxb6002374a
open Go.RowKit
theorem info21 : (Try.prog.info? 21).map (fun i => (i.zero, i.size, i.bytes)) = some (some (.int .i32 0), 1, 4) := by kernel_rfl

/-- One append of one number onto a row of the call's own. -/
theorem own_snoc {B e : Nat} {kd : IntKind} {w wr w1 : World} {u1 v' : Value} {acc : List Int} {x : Int} {o : Obj} (hB : B ≤ w.heap.size) (hbl : Below B w wr)
    (hownr : wr.ownsRow B e 1 u1 acc.length (acc.map (Value.int kd)))
    (hown' : w1.ownsRow B e 1 v' (acc.length + 1) (acc.map (Value.int kd) ++ [.int kd x])) (hgrow : (wr.alloc o).grownBy w1 u1.ownBlock) :
    w1.ownsRow B e 1 v' (acc ++ [x]).length ((acc ++ [x]).map (Value.int kd)) ∧ Below B w w1 := by
  have hs := hbl.size
  refine ⟨by simpa using hown', (hbl.alloc (by omega) o).grown hgrow (by simp; omega) fun k hk => (hownr.lt k hk).1⟩

theorem acc_snoc {us acc : List Int} {x : Int} {k d : Nat} (HD : acc ++ dec16 (us.drop k) = dec16 us) (hs : dec16 (us.drop k) = x :: dec16 (us.drop (k + d))) : (acc ++ [x]) ++ dec16 (us.drop (k + d)) = dec16 us := by
  rw [← HD, hs]; simp

theorem acc_end {us acc : List Int} {k : Nat} (hk : ¬ k < us.length) (HD : acc ++ dec16 (us.drop k) = dec16 us) : acc = dec16 us := by
  rw [← HD, List.drop_eq_nil_of_le (by omega)]; simp [dec16]

set_option maxRecDepth 100000 in
set_option maxHeartbeats 1000000 in
theorem decode16_some (us : List Int) (g cap B : Nat) (v : Value) (w : World) (hB : B ≤ w.heap.size) (hg : g < B) (hc : ∀ j, j < us.length → w.cell? ⟨g, j, none⟩ = some (.int .u16 (us.getD j 0)))
    (hr : ∀ j, 0 ≤ us.getD j 0 ∧ us.getD j 0 ≤ 65535) (hn : us.length ≤ 2097152) (hown : w.ownsRow B 21 1 v 0 []) :
    Calls Try.prog 16 #[.slice (some ⟨g, 0, none⟩) us.length cap, v] w fun e w' => ∃ v', e = .returned v' ∧ w'.ownsRow B 21 1 v' (dec16 us).length ((dec16 us).map (Value.int .i32)) ∧ Below B w w' := by
  obtain ⟨i0, hi, hz0, hz1, hz2⟩ := info_parts info21
  go_enter Try.func16, Try.ntmps16
  go_wp2
  go_loopw [1, 5] (fun v i wr => ∃ (k : Nat) (acc : List Int), k ≤ us.length ∧ i = .int .i64 k ∧ acc.length ≤ k ∧ wr.ownsRow B 21 1 v acc.length (acc.map (Value.int .i32)) ∧ Below B w wr ∧ Hid (acc ++ dec16 (us.drop k) = dec16 us)) (fun _ i _ => us.length - (intOf i).toNat)
  case atStart => exact ⟨0, [], Nat.zero_le _, rfl, Nat.le_refl _, hown, Below.refl _ _, rfl⟩
  case round =>
    obtain ⟨k, acc, hk, rfl, hacc, hownr, hbl, HD⟩ := hrel
    by_cases hlt : k < us.length
    · obtain ⟨x, hx⟩ : ∃ x, x = us.getD k 0 := ⟨_, rfl⟩
      obtain ⟨y, hy⟩ : ∃ y, y = us.getD (k + 1) 0 := ⟨_, rfl⟩
      have hcell : wr.cell? ⟨g, k, none⟩ = some (.int .u16 x) := by rw [hx, hbl.cell (p := ⟨g, k, none⟩) hg]; exact hc k hlt
      have hcell1 : k + 1 < us.length → wr.cell? ⟨g, k + 1, none⟩ = some (.int .u16 y) := fun h => by rw [hy, hbl.cell (p := ⟨g, k + 1, none⟩) hg]; exact hc (k + 1) h
      have hx1 : 0 ≤ x ∧ x ≤ 65535 := by rw [hx]; exact hr k
      have hy1 : 0 ≤ y ∧ y ≤ 65535 := by rw [hy]; exact hr (k + 1)
      have HX : Hid (x = us.getD k 0) := hx
      have HY : Hid (y = us.getD (k + 1) 0) := hy
      clear hx hy hc hr
      by_cases hA : x < 55296
      · go_wp2_with (first
          | (go_at_call 17; refine (decodeRune_pair x y _ (by omega) (by omega) (by omega) (by omega)).mono ?_; rintro e w' ⟨rfl, rfl⟩)
          | (at_builtin; refine wpList_append_own _ rfl _ _ 39 rfl B 21 i0 (.int .i32 0) 1 4 Try.underlying39 hi hz0 hz1 hz2 rfl (by decide) _ _ _ rfl (hownr.alloc _) ⟨wr.heap.size, 0, none⟩ 1 1 [.int .i32 x] rfl rfl (cell_one_new _ _ _) (ints_oneCell .i32 [x]) (by unfold maxLen; omega) (by omega) (by have := hbl.size; simp; omega) ?_; intro v' w1 hown' hgrow _))
        have R := own_snoc hB hbl hownr hown' hgrow
        have HS : Hid ((acc ++ [x]) ++ dec16 (us.drop (k + 1)) = dec16 us) := acc_snoc HD.out (by have e1 := HX.out; have e2 := HY.out; subst e1; subst e2; exact round_bmp us k hlt (by omega))
        clear hown' hgrow hownr hcell
        go_wp2
        go_roundw
        case rel => exact ⟨k + 1, acc ++ [x], by omega, by go_num, by simp; omega, R.1, R.2, HS⟩
        case measure => simp [intOf]; omega
      by_cases hE : 57344 ≤ x
      · go_wp2_with (first
          | (go_at_call 17; refine (decodeRune_pair x y _ (by omega) (by omega) (by omega) (by omega)).mono ?_; rintro e w' ⟨rfl, rfl⟩)
          | (at_builtin; refine wpList_append_own _ rfl _ _ 39 rfl B 21 i0 (.int .i32 0) 1 4 Try.underlying39 hi hz0 hz1 hz2 rfl (by decide) _ _ _ rfl (hownr.alloc _) ⟨wr.heap.size, 0, none⟩ 1 1 [.int .i32 x] rfl rfl (cell_one_new _ _ _) (ints_oneCell .i32 [x]) (by unfold maxLen; omega) (by omega) (by have := hbl.size; simp; omega) ?_; intro v' w1 hown' hgrow _))
        have R := own_snoc hB hbl hownr hown' hgrow
        have HS : Hid ((acc ++ [x]) ++ dec16 (us.drop (k + 1)) = dec16 us) := acc_snoc HD.out (by have e1 := HX.out; have e2 := HY.out; subst e1; subst e2; exact round_bmp us k hlt (by omega))
        clear hown' hgrow hownr hcell
        go_wp2
        go_roundw
        case rel => exact ⟨k + 1, acc ++ [x], by omega, by go_num, by simp; omega, R.1, R.2, HS⟩
        case measure => simp [intOf]; omega
      by_cases hG : 56320 ≤ x
      · go_wp2_with (first
          | (go_at_call 17; refine (decodeRune_pair x y _ (by omega) (by omega) (by omega) (by omega)).mono ?_; rintro e w' ⟨rfl, rfl⟩)
          | (at_builtin; refine wpList_append_own _ rfl _ _ 39 rfl B 21 i0 (.int .i32 0) 1 4 Try.underlying39 hi hz0 hz1 hz2 rfl (by decide) _ _ _ rfl (hownr.alloc _) ⟨wr.heap.size, 0, none⟩ 1 1 [.int .i32 65533] rfl rfl (cell_one_new _ _ _) (ints_oneCell .i32 [65533]) (by unfold maxLen; omega) (by omega) (by have := hbl.size; simp; omega) ?_; intro v' w1 hown' hgrow _))
        have R := own_snoc hB hbl hownr hown' hgrow
        have HS : Hid ((acc ++ [65533]) ++ dec16 (us.drop (k + 1)) = dec16 us) := acc_snoc HD.out (by have e1 := HX.out; have e2 := HY.out; subst e1; subst e2; exact round_rep us k hlt (by omega) (by omega) (fun _ => by omega))
        clear hown' hgrow hownr hcell
        go_wp2
        go_roundw
        case rel => exact ⟨k + 1, acc ++ [65533], by omega, by go_num, by simp; omega, R.1, R.2, HS⟩
        case measure => simp [intOf]; omega
      by_cases hl1 : k + 1 < us.length
      · have hcell2 := hcell1 hl1
        clear hcell1
        by_cases hl2 : y < 56320
        · go_wp2_with (first
            | (go_at_call 17; refine (decodeRune_pair x y _ (by omega) (by omega) (by omega) (by omega)).mono ?_; rintro e w' ⟨rfl, rfl⟩)
            | (at_builtin; refine wpList_append_own _ rfl _ _ 39 rfl B 21 i0 (.int .i32 0) 1 4 Try.underlying39 hi hz0 hz1 hz2 rfl (by decide) _ _ _ rfl (hownr.alloc _) ⟨wr.heap.size, 0, none⟩ 1 1 [.int .i32 65533] rfl rfl (cell_one_new _ _ _) (ints_oneCell .i32 [65533]) (by unfold maxLen; omega) (by omega) (by have := hbl.size; simp; omega) ?_; intro v' w1 hown' hgrow _))
          have R := own_snoc hB hbl hownr hown' hgrow
          have HS : Hid ((acc ++ [65533]) ++ dec16 (us.drop (k + 1)) = dec16 us) := acc_snoc HD.out (by have e1 := HX.out; have e2 := HY.out; subst e1; subst e2; exact round_rep us k hlt (by omega) (by omega) (fun _ => by omega))
          clear hown' hgrow hownr hcell
          go_wp2
          go_roundw
          case rel => exact ⟨k + 1, acc ++ [65533], by omega, by go_num, by simp; omega, R.1, R.2, HS⟩
          case measure => simp [intOf]; omega
        by_cases hl3 : 57344 ≤ y
        · go_wp2_with (first
            | (go_at_call 17; refine (decodeRune_pair x y _ (by omega) (by omega) (by omega) (by omega)).mono ?_; rintro e w' ⟨rfl, rfl⟩)
            | (at_builtin; refine wpList_append_own _ rfl _ _ 39 rfl B 21 i0 (.int .i32 0) 1 4 Try.underlying39 hi hz0 hz1 hz2 rfl (by decide) _ _ _ rfl (hownr.alloc _) ⟨wr.heap.size, 0, none⟩ 1 1 [.int .i32 65533] rfl rfl (cell_one_new _ _ _) (ints_oneCell .i32 [65533]) (by unfold maxLen; omega) (by omega) (by have := hbl.size; simp; omega) ?_; intro v' w1 hown' hgrow _))
          have R := own_snoc hB hbl hownr hown' hgrow
          have HS : Hid ((acc ++ [65533]) ++ dec16 (us.drop (k + 1)) = dec16 us) := acc_snoc HD.out (by have e1 := HX.out; have e2 := HY.out; subst e1; subst e2; exact round_rep us k hlt (by omega) (by omega) (fun _ => by omega))
          clear hown' hgrow hownr hcell
          go_wp2
          go_roundw
          case rel => exact ⟨k + 1, acc ++ [65533], by omega, by go_num, by simp; omega, R.1, R.2, HS⟩
          case measure => simp [intOf]; omega
        go_wp2_with (first
          | (go_at_call 17; refine (decodeRune_pair x y _ (by omega) (by omega) (by omega) (by omega)).mono ?_; rintro e w' ⟨rfl, rfl⟩)
          | (at_builtin; refine wpList_append_own _ rfl _ _ 39 rfl B 21 i0 (.int .i32 0) 1 4 Try.underlying39 hi hz0 hz1 hz2 rfl (by decide) _ _ _ rfl (hownr.alloc _) ⟨wr.heap.size, 0, none⟩ 1 1 [.int .i32 (pair x y)] rfl rfl (cell_one_new _ _ _) (ints_oneCell .i32 [(pair x y)]) (by unfold maxLen; omega) (by omega) (by have := hbl.size; simp; omega) ?_; intro v' w1 hown' hgrow _))
        have R := own_snoc hB hbl hownr hown' hgrow
        have HS : Hid ((acc ++ [(pair x y)]) ++ dec16 (us.drop (k + 2)) = dec16 us) := acc_snoc HD.out (by have e1 := HX.out; have e2 := HY.out; subst e1; subst e2; exact round_pair us k (by omega) (by omega) (by omega) (by omega) (by omega))
        clear hown' hgrow hownr hcell
        go_wp2
        go_roundw
        case rel => exact ⟨k + 2, acc ++ [(pair x y)], by omega, by go_num, by simp; omega, R.1, R.2, HS⟩
        case measure => simp [intOf]; omega
      · go_wp2_with (first
          | (go_at_call 17; refine (decodeRune_pair x y _ (by omega) (by omega) (by omega) (by omega)).mono ?_; rintro e w' ⟨rfl, rfl⟩)
          | (at_builtin; refine wpList_append_own _ rfl _ _ 39 rfl B 21 i0 (.int .i32 0) 1 4 Try.underlying39 hi hz0 hz1 hz2 rfl (by decide) _ _ _ rfl (hownr.alloc _) ⟨wr.heap.size, 0, none⟩ 1 1 [.int .i32 65533] rfl rfl (cell_one_new _ _ _) (ints_oneCell .i32 [65533]) (by unfold maxLen; omega) (by omega) (by have := hbl.size; simp; omega) ?_; intro v' w1 hown' hgrow _))
        have R := own_snoc hB hbl hownr hown' hgrow
        have HS : Hid ((acc ++ [65533]) ++ dec16 (us.drop (k + 1)) = dec16 us) := acc_snoc HD.out (by have e1 := HX.out; have e2 := HY.out; subst e1; subst e2; exact round_rep us k hlt (by omega) (by omega) (fun h => absurd h hl1))
        clear hown' hgrow hownr hcell
        go_wp2
        go_roundw
        case rel => exact ⟨k + 1, acc ++ [65533], by omega, by go_num, by simp; omega, R.1, R.2, HS⟩
        case measure => simp [intOf]; omega
    · have HE := acc_end hlt HD.out
      subst HE
      go_wp2
      go_ret
      exact ⟨_, rfl, hownr, hbl⟩

theorem decode16_nil (B : Nat) (v : Value) (w : World) (hown : w.ownsRow B 21 1 v 0 []) :
    Calls Try.prog 16 #[.slice none 0 0, v] w fun e w' => ∃ v', e = .returned v' ∧ w'.ownsRow B 21 1 v' (dec16 []).length ((dec16 []).map (Value.int .i32)) ∧ Below B w w' := by
  go_enter Try.func16, Try.ntmps16
  go_wp2
  go_loopw [1, 5] (fun u i wr => u = v ∧ i = .int .i64 0 ∧ wr = w) (fun _ _ _ => 0)
  case atStart => exact ⟨rfl, rfl, rfl⟩
  case round =>
    obtain ⟨rfl, rfl, rfl⟩ := hrel
    go_wp2
    go_ret
    exact ⟨_, rfl, hown, Below.refl _ _⟩
end Go.Proofs.Qxb6002374a
