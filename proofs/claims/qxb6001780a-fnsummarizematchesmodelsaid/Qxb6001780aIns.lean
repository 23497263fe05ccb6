/- The walk of insertionSorted. -/
import Derived.Test.Qxb6001780aClone
import Derived.Test.Qxb6001780aInsPlain
namespace Go.Proofs.Qxb6001780a
open Go.RowKit
theorem info2 : (Try.prog.info? 2).map (fun i => (i.zero, i.size, i.bytes)) = some (some (.int .i64 0), 1, 8) := by kernel_rfl

def lats (os : List Rec) : List Int := os.map (·.lat)
theorem lats_length (os : List Rec) : (lats os).length = os.length := by simp [lats]
theorem lats_take (os : List Rec) (k : Nat) (h : k < os.length) : lats (os.take (k + 1)) = lats (os.take k) ++ [(os.getD k rec0).lat] := by
  rw [take_snoc os k h]; simp [lats]

/-- A row of numbers of the call's own. -/
def Nums (w : World) (B e g n : Nat) (zs : List Int) : Prop := w.ownsRow B e 1 (.slice (some ⟨g, 0, none⟩) n n) n (zs.map (Value.int .i64)) ∧ zs.length = n

theorem Nums.cell {w : World} {B e g n : Nat} {zs : List Int} (h : Nums w B e g n zs) (j : Nat) (hj : j < n) : w.cell? ⟨g, j, none⟩ = some (.int .i64 (zs.getD j 0)) := by
  rw [h.1.cellAt j (by omega)]
  have := h.2
  simp [List.getD, List.getElem?_eq_getElem (show j < zs.length by omega)]
theorem Nums.frozen {w : World} {B e g n : Nat} {zs : List Int} (h : Nums w B e g n zs) (j : Nat) : w.frozen? ⟨g, j, none⟩ = false := h.1.frozenAt j
theorem Nums.set {w w0 : World} {B e g n : Nat} {zs : List Int} (h : Nums w B e g n zs) (hB : B ≤ g) (hb : Below B w0 w) (j : Nat) (x : Int) : Nums (w.setCell ⟨g, j, none⟩ (.int .i64 x)) B e g n (zs.set j x) ∧ Below B w0 (w.setCell ⟨g, j, none⟩ (.int .i64 x)) := by
  refine ⟨⟨?_, by simpa using h.2⟩, hb.setCell hB _⟩
  have := (h.1.stored j (.int .i64 x)).1
  rwa [← List.map_set] at this

theorem Nums.made {w : World} {B e g n : Nat} (h : w.ownsRow B e 1 (.slice (some ⟨g, 0, none⟩) n n) n (madeCells (Value.int .i64 0).cells (n * 1)).toList) : Nums w B e g n (List.replicate n 0) := by
  refine ⟨?_, by simp⟩
  have e1 : (madeCells (Value.int .i64 0).cells (n * 1)).toList = (List.replicate n (0 : Int)).map (Value.int .i64) := by
    rw [Nat.mul_one, List.map_replicate]
    exact toList_madeCells_one _ _
  rwa [e1] at h

set_option maxHeartbeats 1000000 in
theorem ins_some (os : List Rec) (b cap : Nat) (w : World) (hblt : b < w.heap.size) (hr : RowAt w b 0 os) (hn : os.length ≤ 4096) :
    Calls Try.prog 11 #[.slice (some ⟨b, 0, none⟩) os.length cap] w fun e w' => e = .returned (.slice (some ⟨w.heap.size, 0, none⟩) os.length os.length) ∧ Nums w' w.heap.size 2 w.heap.size os.length (srt (lats os)) ∧ Below w.heap.size w w' := by
  obtain ⟨i0, hi, hi0, hi1, hi2⟩ := info_parts info2
  go_enter Try.func11, Try.ntmps11
  go_wp2_with (refine wpList_make_full _ rfl _ _ 35 rfl w.heap.size 2 i0 (.int .i64 0) 1 Try.underlying35 hi hi0 hi1 .i64 .i64 _ _ os.length rfl rfl rfl rfl (by rw [hi2]; omega) (by unfold maxLen; omega) (Nat.le_refl _) ?_; intro w1 hown hgr)
  have hbl := (Below.refl w.heap.size w).grown hgr (Nat.le_refl _) (fun k hk => by cases hk)
  have hnum := Nums.made hown
  clear hown hgr
  go_wp2
  go_loopw [4] (fun i wr => ∃ (k : Nat) (zs S : List Int), k ≤ os.length ∧ i = .int .i64 k ∧ Hid (zs.take k = S ∧ S.length = k ∧ S.Pairwise (· ≤ ·) ∧ S.Perm (lats (os.take k))) ∧ Nums wr w.heap.size 2 w.heap.size os.length zs ∧ Below w.heap.size w wr) (fun i _ => os.length - (intOf i).toNat)
  case atStart => exact ⟨0, _, [], Nat.zero_le _, rfl, ⟨by simp, rfl, List.Pairwise.nil, by simp [lats]⟩, hnum, hbl⟩
  case round =>
    clear hnum hbl
    obtain ⟨k, zs, S, hk, rfl, HS, hnum, hbl⟩ := hrel
    by_cases hlt : k < os.length
    · obtain ⟨v, hv⟩ : ∃ v, v = (os.getD k rec0).lat := ⟨_, rfl⟩
      have c0 := ((hr.later hbl hblt) k hlt).1
      rw [← hv, Nat.zero_add] at c0
      have HV : Hid (v = (os.getD k rec0).lat) := hv
      have hst := ins_start zs S k v HS.out.2.1 HS.out.1
      have HI : Hid (Ins zs S k k v) := hst
      clear hv hst
      go_wp2
      go_loopw [6] (fun jv wr => ∃ (j : Nat) (ys : List Int), j ≤ k ∧ jv = .int .i64 j ∧ Hid (Ins ys S k j v) ∧ Nums wr w.heap.size 2 w.heap.size os.length ys ∧ Below w.heap.size w wr) (fun jv _ => (intOf jv).toNat)
      case atStart => exact ⟨k, zs, Nat.le_refl _, rfl, HI, hnum, hbl⟩
      case round =>
        clear hnum hbl HI c0
        obtain ⟨j, ys, hjk, rfl, HI, hnum, hbl⟩ := hrel
        have hyl := hnum.2
        by_cases hj0 : 0 < j
        · have cj := hnum.cell (j - 1) (by omega)
          obtain ⟨x, hx⟩ : ∃ x, x = ys.getD (j - 1) 0 := ⟨_, rfl⟩
          rw [← hx] at cj
          have cq := hnum.cell j (by omega)
          have fq := hnum.frozen j
          generalize ys.getD j 0 = y at cq
          by_cases hxv : v < x
          · have R := hnum.set (Nat.le_refl _) hbl j x
            have HI2 : Hid (Ins (ys.set j x) S k (j - 1) v) := by
              have := ins_step ys S k j v HI.out hj0 (by omega) (by rw [← hx]; exact hxv)
              rwa [← hx] at this
            clear hx hnum hbl HI hyl
            go_wp2
            go_roundw
            case rel => exact ⟨j - 1, _, by omega, by go_num, HI2, R.1, R.2⟩
            case measure => simp [intOf]; omega
          · have R := hnum.set (Nat.le_refl _) hbl j v
            obtain ⟨T, t1, t2, t3, t4⟩ := ins_end ys S k j v HI.out (by omega) (.inr (by rw [← hx]; omega)) HS.out.2.2.1
            have HT : Hid ((ys.set j v).take (k + 1) = T ∧ T.length = k + 1 ∧ T.Pairwise (· ≤ ·) ∧ T.Perm (lats (os.take (k + 1)))) := by
              refine ⟨t1, t2, t3, ?_⟩
              rw [lats_take os k hlt, ← HV.out]
              exact t4.trans (HS.out.2.2.2.append_right [v])
            clear hx hnum hbl HI hyl t1 t2 t3 t4
            go_wp2
            go_roundw
            case rel => exact ⟨k + 1, _, T, by omega, by go_num, HT, R.1, R.2⟩
            case measure => simp [intOf]; omega
        · obtain rfl : j = 0 := by omega
          have cq := hnum.cell 0 (by omega)
          have fq := hnum.frozen 0
          generalize ys.getD 0 0 = y at cq
          have R := hnum.set (Nat.le_refl _) hbl 0 v
          obtain ⟨T, t1, t2, t3, t4⟩ := ins_end ys S k 0 v HI.out (by omega) (.inl rfl) HS.out.2.2.1
          have HT : Hid ((ys.set 0 v).take (k + 1) = T ∧ T.length = k + 1 ∧ T.Pairwise (· ≤ ·) ∧ T.Perm (lats (os.take (k + 1)))) := by
            refine ⟨t1, t2, t3, ?_⟩
            rw [lats_take os k hlt, ← HV.out]
            exact t4.trans (HS.out.2.2.2.append_right [v])
          clear hnum hbl HI hyl t1 t2 t3 t4
          go_wp2
          go_roundw
          case rel => exact ⟨k + 1, _, T, by omega, by go_num, HT, R.1, R.2⟩
          case measure => simp [intOf]; omega
    · have hz : zs = srt (lats os) := by
        obtain ⟨t1, _, t3, t4⟩ := HS.out
        rw [List.take_of_length_le (by have := hnum.2; omega)] at t1
        rw [List.take_of_length_le (by omega)] at t4
        subst t1
        exact srt_of _ _ t3 t4
      rw [hz] at hnum
      clear hz HS
      go_wp2
      go_ret
      exact ⟨rfl, hnum, hbl⟩

theorem ins_none (a : Option Addr) (cap : Nat) (w : World) :
    Calls Try.prog 11 #[.slice a 0 cap] w fun e w' => e = .returned (.slice (some ⟨w.heap.size, 0, none⟩) 0 0) ∧ Nums w' w.heap.size 2 w.heap.size 0 [] ∧ Below w.heap.size w w' := by
  obtain ⟨i0, hi, hi0, hi1, hi2⟩ := info_parts info2
  go_enter Try.func11, Try.ntmps11
  go_wp2_with (refine wpList_make_full _ rfl _ _ 35 rfl w.heap.size 2 i0 (.int .i64 0) 1 Try.underlying35 hi hi0 hi1 .i64 .i64 _ _ 0 rfl rfl rfl rfl (by rw [hi2]; omega) (by unfold maxLen; omega) (Nat.le_refl _) ?_; intro w1 hown hgr)
  have hbl := (Below.refl w.heap.size w).grown hgr (Nat.le_refl _) (fun k hk => by cases hk)
  have hnum := Nums.made hown
  clear hown hgr
  go_wp2
  go_loopw [4] (fun i wr => i = .int .i64 0 ∧ wr = w1) (fun _ _ => 0)
  case atStart => exact ⟨rfl, rfl⟩
  case round =>
    obtain ⟨rfl, rfl⟩ := hrel
    go_wp2
    go_ret
    exact ⟨rfl, hnum, hbl⟩

theorem ins_all (os : List Rec) (a : Option Addr) (cap : Nat) (w : World) (hr : Head3 w a os) (hn : os.length ≤ 4096) :
    Calls Try.prog 11 #[.slice a os.length cap] w fun e w' => e = .returned (.slice (some ⟨w.heap.size, 0, none⟩) os.length os.length) ∧ Nums w' w.heap.size 2 w.heap.size os.length (srt (lats os)) ∧ Below w.heap.size w w' := by
  rcases hr with h | ⟨g, rfl, hg, hr⟩
  · obtain rfl : os = [] := List.eq_nil_of_length_eq_zero h
    have e : srt (lats []) = [] := List.eq_nil_of_length_eq_zero (by rw [srt_length]; rfl)
    rw [e]
    exact ins_none a cap w
  · exact ins_some os g cap w hg hr hn
end Go.Proofs.Qxb6001780a
