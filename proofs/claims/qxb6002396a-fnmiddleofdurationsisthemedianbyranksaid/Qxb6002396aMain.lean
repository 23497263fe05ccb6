/- The walk of FnMiddleOfDurationsIsTheMedianByRank. -/
import Derived.Test.Qxb6002396aMid
import Derived.Test.Qxb6002396aShelf
import Derived.OpenShut
import Derived.Laws.CopyOwn
namespace Go.Proofs.Qxb6002396a
open Go.RowKit Go.Sort

theorem sortC : SortC := fun g cap zs w hH hg hn => Try.slices_Sort_dur g 0 cap zs w hH hg hn

theorem med_big (a : Option Addr) (n cap : Nat) (w : World) (hs : ¬ n ≤ 1048576) :
    Calls Try.prog 4 #[.slice a n cap] w fun e w' => e = .returned (.bool true) ∧ RowKit.Below w.heap.size w w' := by
  go_enter Try.func4, Try.ntmps4
  go_wp2_with (go_at_call 9; refine (bytes9_no _ _ _ _ hs).mono ?_; rintro e w' ⟨rfl, rfl⟩)
  go_ret
  exact ⟨rfl, RowKit.Below.refl _ _⟩

theorem med_len (a : Option Addr) (n cap : Nat) (w : World) (hs : n ≤ 1048576) (hl : n < 1 ∨ 256 < n) :
    Calls Try.prog 4 #[.slice a n cap] w fun e w' => e = .returned (.bool true) ∧ RowKit.Below w.heap.size w w' := by
  go_enter Try.func4, Try.ntmps4
  go_wp2_with (first
    | (go_at_call 9; refine (bytes9 _ _ _ _ hs).mono ?_; rintro e w' ⟨rfl, rfl⟩)
    | (go_at_call 10; refine (fit_len _ _ _ _ hl hs).mono ?_; rintro e w' ⟨rfl, rfl⟩))
  go_ret
  exact ⟨rfl, RowKit.Below.refl _ _⟩

theorem med_bad (xs : List Int) (b off cap : Nat) (w : World) (hc : ∀ j, j < xs.length → w.cell? ⟨b, off + j, none⟩ = some (.int .i64 (xs.getD j 0))) (h1 : 1 ≤ xs.length) (h2 : xs.length ≤ 256) (hf : ¬ ∀ j, j < xs.length → Fit1 (xs.getD j 0)) :
    Calls Try.prog 4 #[.slice (some ⟨b, off, none⟩) xs.length cap] w fun e w' => e = .returned (.bool true) ∧ RowKit.Below w.heap.size w w' := by
  go_enter Try.func4, Try.ntmps4
  go_wp2_with (first
    | (go_at_call 9; refine (bytes9 _ _ _ _ (by omega)).mono ?_; rintro e w' ⟨rfl, rfl⟩)
    | (go_at_call 10; refine (fit_no xs b off cap _ hc h1 h2 hf).mono ?_; rintro e w' ⟨rfl, rfl⟩))
  go_ret
  exact ⟨rfl, RowKit.Below.refl _ _⟩

theorem own_block {B e g : Nat} {w : World} {n : Nat} {xs : List Value} (h : w.ownsRow B e 1 (.slice (some ⟨g, 0, none⟩) n n) n xs) : ∃ cur : List Value, w.heap[g]? = some (.cells cur.toArray e (0, 0)) ∧ cur.length = n := by
  rcases h.2 with ⟨h0, _⟩ | ⟨g', cap', cur, hv, hg, hh, _, _, hs, _⟩
  · cases h0
  · cases hv
    exact ⟨cur.toList, by simpa using hh, by simpa using hs⟩

theorem splice_all (cur cs : List Value) (h : cur.length = cs.length) : splice cur 0 cs = cs := by
  simp [splice, ← h]

theorem own_of_block {B e g : Nat} {w : World} {xs : List Int} (hB : B ≤ g) (hm : xs.length ≤ maxLen) (h : w.heap[g]? = some (.cells (xs.map (Value.int .i64)).toArray e (0, 0))) :
    w.ownsRow B e 1 (.slice (some ⟨g, 0, none⟩) xs.length xs.length) xs.length (xs.map (Value.int .i64)) :=
  ⟨by simp, .inr ⟨g, xs.length, _, rfl, hB, h, Nat.le_refl _, hm, by simp, by rw [Nat.mul_one]; exact List.take_of_length_le (by simp)⟩⟩

theorem size2 : (Try.prog.info? 2).map (·.size) = some 1 := by kernel_rfl

theorem src_cells {w w1 : World} {b off B : Nat} {xs : List Int} (hc : ∀ j, j < xs.length → w.cell? ⟨b, off + j, none⟩ = some (.int .i64 (xs.getD j 0))) (hb : RowKit.Below B w w1) (hlt : b < B) :
    ∀ j v, (xs.map (Value.int .i64))[j]? = some v → w1.cell? ((⟨b, off, none⟩ : Addr).add j) = some v := by
  intro j v hj
  rw [List.getElem?_map] at hj
  obtain ⟨z, hz, rfl⟩ := Option.map_eq_some_iff.1 hj
  have hjl := (List.getElem?_eq_some_iff.1 hz).1
  have e : (⟨b, off, none⟩ : Addr).add j = ⟨b, off + j, none⟩ := Go.WideShapes.add_plain ..
  rw [e, hb.cell (p := ⟨b, off + j, none⟩) hlt, hc j hjl]
  simp [List.getD, hz]

set_option maxHeartbeats 1000000 in
theorem med_go (xs : List Int) (b off cap : Nat) (w : World) (hc : ∀ j, j < xs.length → w.cell? ⟨b, off + j, none⟩ = some (.int .i64 (xs.getD j 0))) (h1 : 1 ≤ xs.length) (h2 : xs.length ≤ 256) (hf : ∀ j, j < xs.length → Fit1 (xs.getD j 0)) :
    Calls Try.prog 4 #[.slice (some ⟨b, off, none⟩) xs.length cap] w fun e w' => e = .returned (.bool true) ∧ RowKit.Below w.heap.size w w' := by
  obtain ⟨i0, hi, hi0, hi1, hi2⟩ := info_parts info2
  have hneq := fun (a : Option Addr) (n c : Nat) (w : World) => run_neq_slice_nil_any (P := Try.prog) w 29 2 a n c 0 0 Try.underlying29
  have HF : Hid (∀ j, j < xs.length → Fit1 (xs.getD j 0)) := hf
  have HC : Hid (∀ j, j < xs.length → w.cell? ⟨b, off + j, none⟩ = some (.int .i64 (xs.getD j 0))) := hc
  have hblt : b < w.heap.size := World.block_lt_of_cell? w ⟨b, off + 0, none⟩ (hc 0 (by omega))
  clear hf hc
  go_enter Try.func4, Try.ntmps4
  go_wp2_with (first
    | (go_at_call 9; refine (bytes9 _ _ _ _ (by omega)).mono ?_; rintro e w' ⟨rfl, rfl⟩)
    | (go_at_call 10; refine (fit_yes xs b off cap _ HC.out h1 h2 HF.out).mono ?_; rintro e w' ⟨rfl, rfl⟩)
    | (refine wpList_make_full _ rfl _ _ 29 rfl w.heap.size 2 i0 (.int .i64 0) 1 Try.underlying29 hi hi0 hi1 .i64 .i64 _ _ xs.length rfl rfl rfl rfl (by rw [hi2]; omega) (by unfold maxLen; omega) (Nat.le_refl _) ?_; intro w1 hown hgr; obtain ⟨cur, hcur, hcl⟩ := own_block hown; have hb1 := (RowKit.Below.refl w.heap.size w).grown hgr (Nat.le_refl _) (fun k hk => by cases hk); clear hown hgr)
    | (refine wpList_copy_splice rfl _ _ 29 29 rfl 2 Try.underlying29 size2 _ _ _ _ _ _ rfl rfl w.heap.size 0 cur 2 hcur (xs.map (Value.int .i64)) (by simp) (fun _ => ⟨rfl, _, rfl, src_cells HC.out hb1 hblt⟩) (by simp [hcl]) (ints_oneCell .i64 xs) w.heap.size w hb1 (Nat.le_refl _) ?_; intro w2 hh2 hb2)
    | fail)
  have hown : w2.ownsRow w.heap.size 2 1 (.slice (some ⟨w.heap.size, 0, none⟩) xs.length xs.length) xs.length (xs.map (Value.int .i64)) := by
    have h := hh2.out
    rw [splice_all _ _ (by simpa using hcl)] at h
    exact own_of_block (Nat.le_refl _) (by unfold maxLen; omega) h
  have hg2 : w.heap.size < w2.heap.size := (hown.lt _ rfl).2
  have hcl2 := fun j hj => own_cells hown j hj
  clear hh2 hcur hcl hown cur hb1
  have hfx : ∀ x ∈ xs, Fit1 x := fun x hx => by
    obtain ⟨j, hj, he⟩ := List.getElem_of_mem hx
    have := HF.out j hj
    rwa [show xs.getD j 0 = x by simp [List.getD, List.getElem?_eq_getElem hj, he]] at this
  refine (zzmid_any sortC xs w.heap.size xs.length w2 hg2 hcl2 (by omega) h2 hfx).mono ?_
  rintro e w3 ⟨rfl, hb3⟩
  have HCL : Hid (∀ j, j < xs.length → w3.cell? ⟨w.heap.size, j, none⟩ = some (.int .i64 (xs.getD j 0))) := fun j hj => by
    rw [hb3.cell (p := ⟨w.heap.size, j, none⟩) hg2]; exact hcl2 j hj
  have hs2 := hb2.size
  have hs3 := hb3.size
  have HB : Hid (RowKit.Below w.heap.size w w3) := hb2.trans (hb3.mono (by omega))
  clear hcl2 hb3 hb2
  have k0 := kth_any xs w.heap.size xs.length (xs.length / 2) w3 (fun j hj => HCL.out j hj) h2 (by omega)
  rw [show ((xs.length / 2 : Nat) : Int) = (xs.length : Int) / 2 by omega] at k0
  have k2 := fun nq => kth_any xs w.heap.size xs.length (xs.length / 2) (w3.drewN nq) (fun j hj => HCL.out j hj) h2 (by omega)
  rw [show ((xs.length / 2 : Nat) : Int) = (xs.length : Int) / 2 by omega] at k2
  have hbel := mid_below xs (by omega)
  have habv := mid_above xs (by omega)
  have HBA : Hid (lts (mid xs) xs ≤ xs.length / 2 ∧ gts (mid xs) xs ≤ xs.length / 2) := ⟨hbel, habv⟩
  clear hbel habv
  by_cases hpar : xs.length % 2 = 0
  · have e1 : ((xs.length : Int) % 2 == 0) = true := by rw [beq_iff_eq]; omega
    have k1 := fun nq => kth_any xs w.heap.size xs.length (xs.length / 2 - 1) (w3.drewN nq) (fun j hj => HCL.out j hj) h2 (by omega)
    rw [show ((xs.length / 2 - 1 : Nat) : Int) = (xs.length : Int) / 2 - 1 by omega] at k1
    have m1 := hfx _ (srt_mem xs (xs.length / 2 - 1) (by omega))
    have m2 := hfx _ (srt_mem xs (xs.length / 2) (by omega))
    have HE : mid xs = ((srt xs).getD (xs.length / 2 - 1) 0 + (srt xs).getD (xs.length / 2) 0).tdiv 2 := by unfold mid; rw [if_pos hpar]
    generalize (srt xs).getD (xs.length / 2 - 1) 0 = a at *
    generalize (srt xs).getD (xs.length / 2) 0 = b2 at *
    generalize mid xs = m at *
    have hne : (m != (a + b2).tdiv 2) = false := by rw [HE]; simp
    unfold Fit1 at m1 m2
    obtain ⟨a1, a2⟩ := m1
    obtain ⟨b1, b3⟩ := m2
    clear HE hpar hfx
    go_wp2_with fail
    refine k0.mono ?_
    rintro e w4 ⟨rfl, nq4, rfl⟩
    go_wp2_with fail
    refine (k1 _).mono ?_
    rintro e w5 ⟨rfl, nq5, rfl⟩
    go_wp2_with fail
    refine (k2 _).mono ?_
    rintro e w6 ⟨rfl, nq6, rfl⟩
    clear k0 k1 k2
    go_wp2
    go_loop [7, 8, 9] (fun be ab i => ∃ j : Nat, j ≤ xs.length ∧ i = .int .i64 j ∧ be = .int .i64 (lts m (xs.take j)) ∧ ab = .int .i64 (gts m (xs.take j))) (fun _ _ i => xs.length - (intOf i).toNat)
    case atStart => exact ⟨0, Nat.zero_le _, rfl, rfl, rfl⟩
    case round =>
      obtain ⟨j, hj, rfl, rfl, rfl⟩ := hrel
      have hl1 := lts_len m (xs.take j)
      have hl2 := gts_len m (xs.take j)
      have hl3 : (xs.take j).length ≤ j := List.length_take_le _ _
      by_cases hjt : j < xs.length
      · have hcellj := HCL.out j hjt
        obtain ⟨y, hy⟩ : ∃ y, y = xs.getD j 0 := ⟨_, rfl⟩
        rw [← hy] at hcellj
        have HS : Hid (lts m (xs.take (j + 1)) = lts m (xs.take j) + (if y < m then 1 else 0) ∧ gts m (xs.take (j + 1)) = gts m (xs.take j) + (if m < y then 1 else 0)) := by
          unfold Hid
          rw [take_snoc xs j hjt, ← hy, lts_snoc, gts_snoc]
          exact ⟨rfl, rfl⟩
        clear hy
        generalize lts m (xs.take j) = L at *
        generalize gts m (xs.take j) = G at *
        by_cases c1 : y < m
        · go_wp2
          go_round
          case rel => exact ⟨j + 1, by omega, by go_num, by rw [HS.out.1, if_pos c1]; go_num, by rw [HS.out.2, if_neg (by omega)]; go_num⟩
          case measure => simp [intOf]; omega
        · by_cases c2 : m < y
          · go_wp2
            go_round
            case rel => exact ⟨j + 1, by omega, by go_num, by rw [HS.out.1, if_neg (by omega)]; go_num, by rw [HS.out.2, if_pos c2]; go_num⟩
            case measure => simp [intOf]; omega
          · go_wp2
            go_round
            case rel => exact ⟨j + 1, by omega, by go_num, by rw [HS.out.1, if_neg (by omega)]; go_num, by rw [HS.out.2, if_neg (by omega)]; go_num⟩
            case measure => simp [intOf]; omega
      · have htk : xs.take j = xs := List.take_of_length_le (by omega)
        rw [htk] at hl1 hl2 ⊢
        clear htk
        have hba := HBA.out
        generalize lts m xs = L at *
        generalize gts m xs = G at *
        obtain ⟨q1, q2⟩ := hba
        have q3 : (L : Int) ≤ (xs.length : Int) / 2 := by omega
        have q4 : (G : Int) ≤ (xs.length : Int) / 2 := by omega
        go_wp2
        go_ret
        exact ⟨rfl, below_drewN HB.out _⟩
  · have e1 : ((xs.length : Int) % 2 == 0) = false := by rw [beq_eq_false_iff_ne]; omega
    have HE : mid xs = (srt xs).getD (xs.length / 2) 0 := by unfold mid; rw [if_neg hpar]
    generalize (srt xs).getD (xs.length / 2) 0 = b2 at *
    generalize mid xs = m at *
    have hne : (m != b2) = false := by rw [HE]; simp
    clear HE hpar hfx
    go_wp2_with fail
    refine k0.mono ?_
    rintro e w4 ⟨rfl, nq4, rfl⟩
    clear k0 k2
    go_wp2
    go_loop [7, 8, 9] (fun be ab i => ∃ j : Nat, j ≤ xs.length ∧ i = .int .i64 j ∧ be = .int .i64 (lts m (xs.take j)) ∧ ab = .int .i64 (gts m (xs.take j))) (fun _ _ i => xs.length - (intOf i).toNat)
    case atStart => exact ⟨0, Nat.zero_le _, rfl, rfl, rfl⟩
    case round =>
      obtain ⟨j, hj, rfl, rfl, rfl⟩ := hrel
      have hl1 := lts_len m (xs.take j)
      have hl2 := gts_len m (xs.take j)
      have hl3 : (xs.take j).length ≤ j := List.length_take_le _ _
      by_cases hjt : j < xs.length
      · have hcellj := HCL.out j hjt
        obtain ⟨y, hy⟩ : ∃ y, y = xs.getD j 0 := ⟨_, rfl⟩
        rw [← hy] at hcellj
        have HS : Hid (lts m (xs.take (j + 1)) = lts m (xs.take j) + (if y < m then 1 else 0) ∧ gts m (xs.take (j + 1)) = gts m (xs.take j) + (if m < y then 1 else 0)) := by
          unfold Hid
          rw [take_snoc xs j hjt, ← hy, lts_snoc, gts_snoc]
          exact ⟨rfl, rfl⟩
        clear hy
        generalize lts m (xs.take j) = L at *
        generalize gts m (xs.take j) = G at *
        by_cases c1 : y < m
        · go_wp2
          go_round
          case rel => exact ⟨j + 1, by omega, by go_num, by rw [HS.out.1, if_pos c1]; go_num, by rw [HS.out.2, if_neg (by omega)]; go_num⟩
          case measure => simp [intOf]; omega
        · by_cases c2 : m < y
          · go_wp2
            go_round
            case rel => exact ⟨j + 1, by omega, by go_num, by rw [HS.out.1, if_neg (by omega)]; go_num, by rw [HS.out.2, if_pos c2]; go_num⟩
            case measure => simp [intOf]; omega
          · go_wp2
            go_round
            case rel => exact ⟨j + 1, by omega, by go_num, by rw [HS.out.1, if_neg (by omega)]; go_num, by rw [HS.out.2, if_neg (by omega)]; go_num⟩
            case measure => simp [intOf]; omega
      · have htk : xs.take j = xs := List.take_of_length_le (by omega)
        rw [htk] at hl1 hl2 ⊢
        clear htk
        have hba := HBA.out
        generalize lts m xs = L at *
        generalize gts m xs = G at *
        obtain ⟨q1, q2⟩ := hba
        have q3 : (L : Int) ≤ (xs.length : Int) / 2 := by omega
        have q4 : (G : Int) ≤ (xs.length : Int) / 2 := by omega
        go_wp2
        go_ret
        exact ⟨rfl, below_drewN HB.out nq4⟩

/-- What the walk is told of a slice of integers that came in (the kit's shell's own words). -/
def IsRow (k : IntKind) (w : World) (a : Option Addr) (len cap : Nat) (zs : List Int) : Prop :=
  (a = none ∧ len = 0 ∧ cap = 0 ∧ zs = []) ∨
  ∃ x, a = some x ∧ len ≤ cap ∧ cap ≤ maxLen ∧ zs.length = cap ∧ (∀ i, i < zs.length → w.cell? (x.add i) = some (.int k (zs.getD i 0))) ∧ ∀ n ∈ zs, (Lit.int k n).wf = true

theorem take_getD (zs : List Int) (n j : Nat) (hj : j < n) : (zs.take n).getD j 0 = zs.getD j 0 := by
  simp [List.getD, List.getElem?_take_of_lt hj]

theorem med_walk (a0 : Option Addr) (len0 cap0 : Nat) (z0 : List Int) (w : World) (w0 : IsRow .i64 w a0 len0 cap0 z0) :
    Calls Try.prog 4 #[.slice a0 len0 cap0] w fun e w' => e = .returned (.bool true) ∧ RowKit.Below w.heap.size w w' := by
  by_cases hb : ¬ len0 ≤ 1048576
  · exact med_big a0 len0 cap0 w hb
  by_cases hl : len0 < 1 ∨ 256 < len0
  · exact med_len a0 len0 cap0 w (by omega) hl
  rcases w0 with ⟨rfl, rfl, rfl, rfl⟩ | ⟨x, rfl, hlc, hm, hz, hc, hwf⟩
  · omega
  · have hlen : (z0.take len0).length = len0 := by simp; omega
    have hcl : ∀ j, j < (z0.take len0).length → w.cell? (x.add j) = some (.int .i64 ((z0.take len0).getD j 0)) := fun j hj => by
      rw [take_getD z0 len0 j (by omega)]; exact hc j (by omega)
    obtain ⟨b, off, rfl, hc2⟩ := ints_at hcl (by omega)
    by_cases hf : ∀ j, j < (z0.take len0).length → Fit1 ((z0.take len0).getD j 0)
    · have := med_go (z0.take len0) b off cap0 w hc2 (by omega) (by omega) hf
      rwa [hlen] at this
    · have := med_bad (z0.take len0) b off cap0 w hc2 (by omega) (by omega) hf
      rwa [hlen] at this
end Go.Proofs.Qxb6002396a
