/- The walk of cloneOuts. -/
import Derived.Test.Qxb6001780aFill
import Derived.Lib.SliceRun
namespace Go.Proofs.Qxb6001780a
open Go.RowKit
theorem info34 : (Try.prog.info? 34).map (fun i => (i.zero, i.size, i.bytes)) = some (some (.agg #[.int .i64 0, .int .i64 0, .string ⟨#[]⟩]), 3, 32) := by kernel_rfl
theorem info42 : (Try.prog.info? 42).map (fun i => (i.zero, i.size, i.bytes)) = some (some (.agg #[.int .i64 0, .int .i64 0, .string ⟨#[]⟩]), 3, 32) := by kernel_rfl

set_option maxHeartbeats 400000 in
theorem clone_some (os : List Rec) (b off cap : Nat) (w : World) (hp : 0 < os.length) (hr : RowAt w b off os) (hn : os.length ≤ 4096) :
    Calls Try.prog 8 #[.slice (some ⟨b, off, none⟩) os.length cap] w fun e w' => e = .returned (.slice (some ⟨w.heap.size, 0, none⟩) os.length os.length) ∧ RowAt w' w.heap.size 0 os ∧ w.heap.size < w'.heap.size ∧ Below w.heap.size w w' := by
  obtain ⟨i0, hi, hi0, hi1, hi2⟩ := info_parts info34
  have heq := fun (a : Option Addr) (n c : Nat) (w : World) => Lib.run_eql_slice_nil (P := Try.prog) w 22 34 a n c 0 0 Try.underlying22
  have hblt : b < w.heap.size := World.block_lt_of_cell? w _ (hr 0 hp).1
  go_enter Try.func8, Try.ntmps8
  go_wp2_with (refine wpList_make_full _ rfl _ _ 22 rfl w.heap.size 34 i0 (.agg #[.int .i64 0, .int .i64 0, .string ⟨#[]⟩]) 3 Try.underlying22 hi hi0 hi1 .i64 .i64 _ _ os.length rfl rfl rfl rfl (by rw [hi2]; omega) (by unfold maxLen; omega) (Nat.le_refl _) ?_; intro w1 hown hgr)
  have hbl := (Below.refl w.heap.size w).grown hgr (Nat.le_refl _) (fun k hk => by cases hk)
  have hpart : Part w1 w.heap.size 34 w.heap.size os 0 := ⟨_, hown, by simp [flat]⟩
  clear hown hgr
  go_wp2
  go_loopw [4] (fun i wr => ∃ k : Nat, k ≤ os.length ∧ i = .int .i64 k ∧ Part wr w.heap.size 34 w.heap.size os k ∧ Below w.heap.size w wr) (fun i _ => os.length - (intOf i).toNat)
  case atStart => exact ⟨0, Nat.zero_le _, rfl, hpart, hbl⟩
  case round =>
    clear hpart hbl
    obtain ⟨k, hk, rfl, hpart, hbl⟩ := hrel
    by_cases hlt : k < os.length
    · obtain ⟨r, hrr⟩ : ∃ r, r = os.getD k rec0 := ⟨_, rfl⟩
      have R := hpart.step hlt (Nat.le_refl _) hbl hrr
      obtain ⟨c0, c1, c2⟩ := (hr.later hbl hblt) k hlt
      rw [← hrr] at c0 c1 c2
      obtain ⟨⟨y0, q0⟩, f0⟩ := hpart.cell (k * 3) (by omega)
      obtain ⟨⟨y1, q1⟩, f1⟩ := hpart.cell (k * 3 + 1) (by omega)
      obtain ⟨⟨y2, q2⟩, f2⟩ := hpart.cell (k * 3 + 2) (by omega)
      generalize r.lat = l at *
      generalize r.byt = by' at *
      generalize r.err = s at *
      clear hrr hpart hr
      go_wp2
      go_roundw
      case rel => exact ⟨k + 1, by omega, by go_num, R.1, R.2⟩
      case measure => simp [intOf]; omega
    · have hrow := hpart.row (by omega)
      have hl := hpart.lt
      go_wp2
      go_ret
      exact ⟨rfl, hrow, hl.2, hbl⟩

set_option maxHeartbeats 400000 in
theorem clone_none (x : Addr) (cap : Nat) (w : World) :
    Calls Try.prog 8 #[.slice (some x) 0 cap] w fun e w' => e = .returned (.slice (some ⟨w.heap.size, 0, none⟩) 0 0) ∧ Below w.heap.size w w' := by
  obtain ⟨i0, hi, hi0, hi1, hi2⟩ := info_parts info34
  have heq := fun (a : Option Addr) (n c : Nat) (w : World) => Lib.run_eql_slice_nil (P := Try.prog) w 22 34 a n c 0 0 Try.underlying22
  go_enter Try.func8, Try.ntmps8
  go_wp2_with (refine wpList_make_full _ rfl _ _ 22 rfl w.heap.size 34 i0 (.agg #[.int .i64 0, .int .i64 0, .string ⟨#[]⟩]) 3 Try.underlying22 hi hi0 hi1 .i64 .i64 _ _ 0 rfl rfl rfl rfl (by rw [hi2]; omega) (by unfold maxLen; omega) (Nat.le_refl _) ?_; intro w1 hown hgr)
  have hbl := (Below.refl w.heap.size w).grown hgr (Nat.le_refl _) (fun k hk => by cases hk)
  clear hown hgr
  go_wp2
  go_loopw [4] (fun i wr => i = .int .i64 0 ∧ wr = w1) (fun _ _ => 0)
  case atStart => exact ⟨rfl, rfl⟩
  case round =>
    obtain ⟨rfl, rfl⟩ := hrel
    go_wp2
    go_ret
    exact ⟨rfl, hbl⟩

theorem clone_nil (w : World) : Calls Try.prog 8 #[.slice none 0 0] w fun e w' => e = .returned (.slice none 0 0) ∧ w = w' := by
  have heq := fun (a : Option Addr) (n c : Nat) (w : World) => Lib.run_eql_slice_nil (P := Try.prog) w 22 34 a n c 0 0 Try.underlying22
  go_enter Try.func8, Try.ntmps8
  go_wp2
  go_ret
  exact ⟨rfl, rfl⟩

/-- A slice of records that came in. -/
def In3 (w : World) (a : Option Addr) (cap : Nat) (os : List Rec) : Prop := (a = none ∧ cap = 0 ∧ os = []) ∨ (os = [] ∧ ∃ x, a = some x) ∨ (0 < os.length ∧ ∃ b off, a = some ⟨b, off, none⟩ ∧ RowAt w b off os)

theorem In3.rows {w : World} {a : Option Addr} {cap : Nat} {os : List Rec} (h : In3 w a cap os) : Rows3 w a os := by
  rcases h with ⟨_, _, rfl⟩ | ⟨rfl, _⟩ | ⟨_, h⟩
  · exact .inl rfl
  · exact .inl rfl
  · exact .inr h

/-- The records lie at the head of a block that lies in w (or there are none). -/
def Head3 (w : World) (a : Option Addr) (os : List Rec) : Prop := os.length = 0 ∨ ∃ g, a = some ⟨g, 0, none⟩ ∧ g < w.heap.size ∧ RowAt w g 0 os

theorem Head3.rows {w : World} {a : Option Addr} {os : List Rec} (h : Head3 w a os) : Rows3 w a os := by
  rcases h with h | ⟨g, h1, _, h2⟩
  · exact .inl h
  · exact .inr ⟨g, 0, h1, h2⟩
theorem Head3.later {w w' : World} {a : Option Addr} {os : List Rec} (h : Head3 w a os) (hb : Below w.heap.size w w') : Head3 w' a os := by
  rcases h with h | ⟨g, h1, h2, h3⟩
  · exact .inl h
  · have := hb.size
    exact .inr ⟨g, h1, by omega, h3.later hb h2⟩

theorem clone_all (os : List Rec) (a : Option Addr) (cap : Nat) (w : World) (hr : In3 w a cap os) (hn : os.length ≤ 4096) :
    Calls Try.prog 8 #[.slice a os.length cap] w fun e w' => ∃ a' c', e = .returned (.slice a' os.length c') ∧ Head3 w' a' os ∧ Below w.heap.size w w' := by
  rcases hr with ⟨rfl, rfl, rfl⟩ | ⟨rfl, x, rfl⟩ | ⟨hp, b, off, rfl, hr⟩
  · refine (clone_nil w).mono fun e w' ⟨he, hw⟩ => ?_
    subst he; subst hw
    exact ⟨none, 0, rfl, .inl rfl, Below.refl _ _⟩
  · refine (clone_none x cap w).mono fun e w' ⟨he, hb⟩ => ?_
    subst he
    exact ⟨_, _, rfl, .inl rfl, hb⟩
  · refine (clone_some os b off cap w hp hr hn).mono fun e w' ⟨he, h1, h2, h3⟩ => ?_
    subst he
    exact ⟨_, _, rfl, .inr ⟨_, rfl, h2, h1⟩, h3⟩
end Go.Proofs.Qxb6001780a
