/- The walks of bench.Middle and ZZMiddleDurations, over the sort's contract. -/
import Derived.Test.Qxb6002396aKth
import Derived.Test.Qxb6002396aFill
import Derived.Sort.OwnSortedInts
import Derived.Lib.SliceRun
namespace Go.Proofs.Qxb6002396a
open Go.RowKit Go.Sort

/-- The contract of slices.Sort at []time.Duration. -/
def SortC : Prop := ∀ (g cap : Nat) (zs : List Int) (w : World), Holds (Value.int .i64) w g 0 zs.toArray → g < w.heap.size → zs.length < 4611686018427387904 →
  Calls Try.prog 16 #[.slice (some ⟨g, 0, none⟩) zs.length cap] w fun e w' =>
    e = .returned (.tuple #[]) ∧ ∃ n os, w' = grow (putRow (Value.int .i64) (Sort.ahead w n) g 0 (zs.mergeSort fun x y => decide (x ≤ y)).toArray) os

theorem info35 : (Try.prog.info? 35).map (fun i => (i.zero, i.size, i.bytes)) = some (some (.int .i64 0), 1, 8) := by kernel_rfl
theorem info2 : (Try.prog.info? 2).map (fun i => (i.zero, i.size, i.bytes)) = some (some (.int .i64 0), 1, 8) := by kernel_rfl

theorem add_zero_addr (g j : Nat) : (⟨g, 0, none⟩ : Addr).add j = ⟨g, j, none⟩ := by
  cases j <;> simp [Addr.add]

theorem own_cells {B e g cap : Nat} {kd : IntKind} {w : World} {xs : List Int} (h : w.ownsRow B e 1 (.slice (some ⟨g, 0, none⟩) xs.length cap) xs.length (xs.map (Value.int kd))) (j : Nat) (hj : j < xs.length) :
    w.cell? ⟨g, j, none⟩ = some (.int kd (xs.getD j 0)) := by
  have := h.cells (g := g) rfl j (.int kd (xs.getD j 0)) (by simp [List.getD, List.getElem?_eq_getElem hj])
  rwa [add_zero_addr] at this

/-- The sort over a row of the call's own. -/
theorem sort_own (S : SortC) (xs : List Int) (B g : Nat) (w : World) (hown : w.ownsRow B 35 1 (.slice (some ⟨g, 0, none⟩) xs.length xs.length) xs.length (xs.map (Value.int .i64))) (hB : B ≤ w.heap.size) (hn : xs.length ≤ 1048576) :
    Calls Try.prog 16 #[.slice (some ⟨g, 0, none⟩) xs.length xs.length] w fun e w' => e = .returned (.tuple #[]) ∧
      w'.ownsRow B 35 1 (.slice (some ⟨g, 0, none⟩) xs.length xs.length) xs.length ((srt xs).map (Value.int .i64)) ∧ Below B w w' := by
  rcases hown.2 with ⟨h0, _⟩ | ⟨g', cap', cur, hv, hbase, hb, h1, h2, h3, h4⟩
  · cases h0
  · cases hv
    refine (S g xs.length xs w (holds_of_blockI hb (by simpa using h4)) (Array.getElem?_eq_some_iff.1 hb).1 (by omega)).mono fun e w' ⟨he, n, os, hw⟩ => ?_
    subst he; subst hw
    exact ⟨rfl, ownsRow_sortedI (srt_length xs) hbase hb h1 h2 h3, (Below.refl _ _).grown (grownBy_sortedI _) hB (fun k hk => by cases hk; exact hbase)⟩

theorem fit_sum (a b : Int) (ha : Fit1 a) (hb : Fit1 b) : wrap64 ((a + b).tdiv 2) = (a + b).tdiv 2 := by
  unfold Fit1 at ha hb
  have h : -2305843009213693952 ≤ (a + b).tdiv 2 ∧ (a + b).tdiv 2 ≤ 2305843009213693952 := by
    rcases Int.le_total 0 (a + b) with h0 | h0
    · rw [Int.tdiv_eq_ediv_of_nonneg h0]; omega
    · have : (a + b).tdiv 2 = - ((-(a + b)) / 2) := by
        rw [← Int.tdiv_eq_ediv_of_nonneg (by omega), Int.neg_tdiv]; omega
      rw [this]; omega
  exact IntWalk.wrap64_in _ ⟨by omega, by omega⟩

set_option maxHeartbeats 400000 in
theorem middle_any (S : SortC) (xs : List Int) (B g : Nat) (w : World) (hown : w.ownsRow B 35 1 (.slice (some ⟨g, 0, none⟩) xs.length xs.length) xs.length (xs.map (Value.int .i64))) (hB : B ≤ w.heap.size) (hp : 0 < xs.length) (hn : xs.length ≤ 256) (hf : ∀ x ∈ xs, Fit1 x) :
    Calls Try.prog 15 #[.slice (some ⟨g, 0, none⟩) xs.length xs.length] w fun e w' => e = .returned (.int .i64 (mid xs)) ∧ Below B w w' := by
  have HF : Hid (∀ x ∈ xs, Fit1 x) := hf
  clear hf
  have hcall := sort_own S xs B g w hown hB (by omega)
  clear hown
  go_enter Try.func15, Try.ntmps15
  go_wp2_with fail
  refine hcall.mono ?_
  rintro e w1 ⟨rfl, hown, hb⟩
  clear hcall
  have hcl : ∀ j, j < xs.length → w1.cell? ⟨g, j, none⟩ = some (.int .i64 ((srt xs).getD j 0)) := fun j hj => by
    have h := hown
    rw [← srt_length xs] at h
    exact own_cells h j (by rw [srt_length]; exact hj)
  by_cases hpar : xs.length % 2 = 0
  · have e1 : ((xs.length : Int) % 2 == 0) = true := by rw [beq_iff_eq]; omega
    have c1 := hcl (xs.length / 2 - 1) (by omega)
    have c2 := hcl (xs.length / 2) (by omega)
    have m1 := HF.out _ (srt_mem xs (xs.length / 2 - 1) (by omega))
    have m2 := HF.out _ (srt_mem xs (xs.length / 2) (by omega))
    have HE : Hid (mid xs = ((srt xs).getD (xs.length / 2 - 1) 0 + (srt xs).getD (xs.length / 2) 0).tdiv 2) := by unfold Hid mid; rw [if_pos hpar]
    generalize (srt xs).getD (xs.length / 2 - 1) 0 = a at *
    generalize (srt xs).getD (xs.length / 2) 0 = b at *
    have HW : Hid (wrap64 ((a + b).tdiv 2) = (a + b).tdiv 2) := fit_sum a b m1 m2
    unfold Fit1 at m1 m2
    obtain ⟨a1, a2⟩ := m1
    obtain ⟨b1, b2⟩ := m2
    have hx1 : 2 ≤ xs.length := by omega
    clear hcl hown hpar
    go_wp2
    go_quiet (fail)
    go_wp2
    go_ret
    exact ⟨ret_int HE.out.symm, below_drewN hb nq⟩
  · have e1 : ((xs.length : Int) % 2 == 0) = false := by rw [beq_eq_false_iff_ne]; omega
    have c2 := hcl (xs.length / 2) (by omega)
    have HE : Hid (mid xs = (srt xs).getD (xs.length / 2) 0) := by unfold Hid mid; rw [if_neg hpar]
    generalize (srt xs).getD (xs.length / 2) 0 = b at *
    clear hcl hown hpar
    go_wp2
    go_ret
    exact ⟨ret_int HE.out.symm, hb⟩

set_option maxHeartbeats 400000 in
theorem zzmid_any (S : SortC) (xs : List Int) (g cap : Nat) (w : World) (hg : g < w.heap.size) (hc : ∀ j, j < xs.length → w.cell? ⟨g, j, none⟩ = some (.int .i64 (xs.getD j 0))) (hp : 0 < xs.length) (hn : xs.length ≤ 256) (hf : ∀ x ∈ xs, Fit1 x) :
    Calls Try.prog 11 #[.slice (some ⟨g, 0, none⟩) xs.length cap] w fun e w' => e = .returned (.int .i64 (mid xs)) ∧ RowKit.Below w.heap.size w w' := by
  have HF : Hid (∀ x ∈ xs, Fit1 x) := hf
  clear hf
  obtain ⟨i0, hi, hi0, hi1, hi2⟩ := info_parts info35
  go_enter Try.func11, Try.ntmps11
  go_wp2_with (refine wpList_make_full _ rfl _ _ 34 rfl w.heap.size 35 i0 (.int .i64 0) 1 Try.underlying34 hi hi0 hi1 .i64 .i64 _ _ xs.length rfl rfl rfl rfl (by rw [hi2]; omega) (by unfold maxLen; omega) (Nat.le_refl _) ?_; intro w1 hown hgr)
  have hbl := (RowKit.Below.refl w.heap.size w).grown hgr (Nat.le_refl _) (fun k hk => by cases hk)
  have hown2 := made_fill hown
  clear hown hgr
  go_wp2
  go_loopw [11] (fun i wr => ∃ k : Nat, k ≤ xs.length ∧ i = .int .i64 k ∧ wr.ownsRow w.heap.size 35 1 (.slice (some ⟨w.heap.size, 0, none⟩) xs.length xs.length) xs.length ((fillTo xs k).map (Value.int .i64)) ∧ RowKit.Below w.heap.size w wr) (fun i _ => xs.length - (intOf i).toNat)
  case atStart => exact ⟨0, Nat.zero_le _, rfl, hown2, hbl⟩
  case round =>
    clear hown2 hbl
    obtain ⟨k, hk, rfl, hown, hbl⟩ := hrel
    by_cases hlt : k < xs.length
    · have R := fill_step (Nat.le_refl _) hlt hown hbl
      obtain ⟨x, hx⟩ : ∃ x, x = xs.getD k 0 := ⟨_, rfl⟩
      rw [← hx] at R
      have hcell : wr.cell? ⟨g, k, none⟩ = some (.int .i64 x) := by rw [hx, hbl.cell (p := ⟨g, k, none⟩) hg]; exact hc k hlt
      obtain ⟨y, hy⟩ := fill_cell hlt hown
      have hfz := hown.frozenAt k
      clear hx hown hc
      go_wp2
      go_roundw
      case rel => exact ⟨k + 1, by omega, by go_num, R.1, R.2⟩
      case measure => simp [intOf]; omega
    · rw [fillTo_end xs k (by omega)] at hown
      have hs := hbl.size
      go_wp2_with (go_at_call 15; refine (middle_any S xs w.heap.size w.heap.size _ hown (by omega) hp hn HF.out).mono ?_; rintro e w2 ⟨rfl, hb2⟩)
      go_ret
      exact ⟨rfl, hbl.trans hb2⟩
end Go.Proofs.Qxb6002396a
