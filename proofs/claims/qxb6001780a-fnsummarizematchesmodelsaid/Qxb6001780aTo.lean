/- The walks of ZZNewOutcome and toOutcomes. -/
import Derived.Test.Qxb6001780aClone
import Derived.StillTactics
import Derived.Laws.Pointers
import Derived.Deep.RegionHeld3
namespace Go.Proofs.Qxb6001780a
open Go.RowKit
theorem Part.alloc {w : World} {B e g : Nat} {os : List Rec} {k : Nat} (h : Part w B e g os k) (o : Obj) : Part (w.alloc o) B e g os k := by
  obtain ⟨xs, h1, h2⟩ := h
  exact ⟨xs, h1.alloc o, h2⟩
theorem Part.drew {w : World} {B e g : Nat} {os : List Rec} {k : Nat} (h : Part w B e g os k) : Part w.drew B e g os k := by
  obtain ⟨xs, h1, h2⟩ := h
  exact ⟨xs, h1.drew, h2⟩

theorem new18 (l y : Int) (s : ByteArray) (w : World) :
    Calls Try.prog 18 #[.int .i64 l, .int .i64 y, .string s] w fun e w' => e = .returned (.agg #[.int .i64 l, .int .i64 y, .string s]) ∧ w' = w.alloc (.cells #[.int .i64 l, .int .i64 y, .string s] 42) := by
  go_enter Try.func18, Try.ntmps18
  go_wp2
  exact bodyPost_ret (v := .agg #[.int .i64 l, .int .i64 y, .string s]) (by simp [results, Try.results18, go_sem]) rfl ⟨rfl, rfl⟩

set_option maxHeartbeats 400000 in
theorem to_some (os : List Rec) (b cap : Nat) (w : World) (hp : 0 < os.length) (hblt : b < w.heap.size) (hr : RowAt w b 0 os) (hn : os.length ≤ 4096) :
    Calls Try.prog 10 #[.slice (some ⟨b, 0, none⟩) os.length cap] w fun e w' => e = .returned (.slice (some ⟨w.heap.size, 0, none⟩) os.length os.length) ∧ RowAt w' w.heap.size 0 os ∧ w.heap.size < w'.heap.size ∧ Below w.heap.size w w' := by
  obtain ⟨i0, hi, hi0, hi1, hi2⟩ := info_parts info42
  go_enter Try.func10, Try.ntmps10
  go_wp2_with (refine wpList_make_full _ rfl _ _ 31 rfl w.heap.size 42 i0 (.agg #[.int .i64 0, .int .i64 0, .string ⟨#[]⟩]) 3 Try.underlying31 hi hi0 hi1 .i64 .i64 _ _ os.length rfl rfl rfl rfl (by rw [hi2]; omega) (by unfold maxLen; omega) (Nat.le_refl _) ?_; intro w1 hown hgr)
  have hbl := (Below.refl w.heap.size w).grown hgr (Nat.le_refl _) (fun k hk => by cases hk)
  have hpart : Part w1 w.heap.size 42 w.heap.size os 0 := ⟨_, hown, by simp [flat]⟩
  clear hown hgr
  go_wp2
  go_loopw [4] (fun i wr => ∃ k : Nat, k ≤ os.length ∧ i = .int .i64 k ∧ Part wr w.heap.size 42 w.heap.size os k ∧ Below w.heap.size w wr) (fun i _ => os.length - (intOf i).toNat)
  case atStart => exact ⟨0, Nat.zero_le _, rfl, hpart, hbl⟩
  case round =>
    clear hpart hbl
    obtain ⟨k, hk, rfl, hpart, hbl⟩ := hrel
    by_cases hlt : k < os.length
    · obtain ⟨r, hrr⟩ : ∃ r, r = os.getD k rec0 := ⟨_, rfl⟩
      obtain ⟨c0, c1, c2⟩ := (hr.later hbl hblt) k hlt
      rw [← hrr] at c0 c1 c2
      obtain ⟨⟨y0, q0⟩, f0⟩ := hpart.cell (k * 3) (by omega)
      obtain ⟨⟨y1, q1⟩, f1⟩ := hpart.cell (k * 3 + 1) (by omega)
      obtain ⟨⟨y2, q2⟩, f2⟩ := hpart.cell (k * 3 + 2) (by omega)
      have hlt2 : (k : Int) < (os.length : Int) := by omega
      have hk0 : (0 : Int) ≤ (k : Int) := by omega
      have hgl := hpart.lt.2
      have hsz := hbl.size
      have n1 : b < wr.heap.size := by omega
      rw [Nat.zero_add] at c0 c1 c2
      have ne1 : w.heap.size ≠ b := by omega
      have ne2 : wr.heap.size ≠ b := by omega
      have ne3 : wr.heap.size ≠ w.heap.size := by omega
      have HP : Hid (Part wr w.heap.size 42 w.heap.size os k) := hpart
      have HB : Hid (Below w.heap.size w wr) := hbl
      have HRR : Hid (r = os.getD k rec0) := hrr
      clear hrr hpart hr hbl
      go_wp2
      go_region_held3 (fun w' => w'.cell? ⟨b, k * 3, none⟩ = some (.int .i64 r.lat) ∧ w'.cell? ⟨b, k * 3 + 1, none⟩ = some (.int .i64 r.byt) ∧ w'.cell? ⟨b, k * 3 + 2, none⟩ = some (.string r.err)) (go_keep)
        (first | (go_at_call 18; refine (new18 _ _ _ _).mono ?_; rintro e w' ⟨rfl, rfl⟩))
      all_goals go_wp2
      have R := HP.out.step hlt (Nat.le_refl _) HB.out HRR.out
      go_roundw
      case rel => exact ⟨k + 1, by omega, by go_num, (R.1.alloc _).drew, (R.2.alloc (by simp; omega) _).drew⟩
      case measure => simp [intOf]; omega
    · have hrow := hpart.row (by omega)
      have hl := hpart.lt
      go_wp2
      go_ret
      exact ⟨rfl, hrow, hl.2, hbl⟩

theorem to_none (a : Option Addr) (cap : Nat) (w : World) :
    Calls Try.prog 10 #[.slice a 0 cap] w fun e w' => e = .returned (.slice (some ⟨w.heap.size, 0, none⟩) 0 0) ∧ Below w.heap.size w w' := by
  obtain ⟨i0, hi, hi0, hi1, hi2⟩ := info_parts info42
  go_enter Try.func10, Try.ntmps10
  go_wp2_with (refine wpList_make_full _ rfl _ _ 31 rfl w.heap.size 42 i0 (.agg #[.int .i64 0, .int .i64 0, .string ⟨#[]⟩]) 3 Try.underlying31 hi hi0 hi1 .i64 .i64 _ _ 0 rfl rfl rfl rfl (by rw [hi2]; omega) (by unfold maxLen; omega) (Nat.le_refl _) ?_; intro w1 hown hgr)
  have hbl := (Below.refl w.heap.size w).grown hgr (Nat.le_refl _) (fun k hk => by cases hk)
  clear hown hgr
  go_wp2
  go_loopw [4] (fun i wr => i = .int .i64 0 ∧ wr = w1) (fun _ _ => 0)
  case atStart => exact ⟨rfl, rfl⟩
  case round =>
    obtain ⟨rfl, rfl⟩ := hrel
    go_wp2
    go_ret
    exact ⟨rfl, hbl⟩

theorem to_all (os : List Rec) (a : Option Addr) (cap : Nat) (w : World) (hr : Head3 w a os) (hn : os.length ≤ 4096) :
    Calls Try.prog 10 #[.slice a os.length cap] w fun e w' => ∃ a' c', e = .returned (.slice a' os.length c') ∧ Head3 w' a' os ∧ Below w.heap.size w w' := by
  by_cases hp : 0 < os.length
  · rcases hr with h | ⟨g, rfl, hg, hr⟩
    · omega
    · refine (to_some os g cap w hp hg hr hn).mono fun e w' ⟨he, h1, h2, h3⟩ => ?_
      subst he
      exact ⟨_, _, rfl, .inr ⟨_, rfl, h2, h1⟩, h3⟩
  · obtain rfl : os = [] := List.eq_nil_of_length_eq_zero (by omega)
    refine (to_none a cap w).mono fun e w' ⟨he, hb⟩ => ?_
    subst he
    exact ⟨_, _, rfl, .inl rfl, hb⟩
end Go.Proofs.Qxb6001780a
