/- The walk of FnDecodeUCS2AcceptsExactlyTerminated. -/
import Derived.Test.Qxb6002374aClone
import Derived.Test.Qxb6002374aAccPlain
namespace Go.Proofs.Qxb6002374a
open Go.RowKit

theorem bytes7 (a : Option Addr) (n cap : Nat) (w : World) (hs : n ≤ 1048576) :
    Calls Try.prog 7 #[.slice a n cap] w fun e w' => e = .returned (.bool true) ∧ w = w' := by
  go_enter Try.func7, Try.ntmps7
  go_wp2
  go_ret
  exact ⟨rfl, rfl⟩

theorem bytes7_no (a : Option Addr) (n cap : Nat) (w : World) (hs : ¬ n ≤ 1048576) :
    Calls Try.prog 7 #[.slice a n cap] w fun e w' => e = .returned (.bool false) ∧ w = w' := by
  go_enter Try.func7, Try.ntmps7
  go_wp2
  go_ret
  exact ⟨rfl, rfl⟩

/-- The clone of a slice that is not nil, of whatever length. -/
theorem cloneB_any (bs : List Int) (x : Addr) (cap : Nat) (w : World) (hc : ∀ j, j < bs.length → w.cell? (x.add j) = some (.int .u8 (bs.getD j 0))) (hn : bs.length ≤ 2097152) :
    Calls Try.prog 8 #[.slice (some x) bs.length cap] w fun e w' => e = .returned (.slice (some ⟨w.heap.size, 0, none⟩) bs.length bs.length) ∧
      w'.ownsRow w.heap.size 5 1 (.slice (some ⟨w.heap.size, 0, none⟩) bs.length bs.length) bs.length (bs.map (Value.int .u8)) ∧ Below w.heap.size w w' := by
  by_cases hp : 0 < bs.length
  · obtain ⟨b, off, rfl, hc2⟩ := ints_at hc hp
    exact cloneB_some bs b off cap w hp hc2 hn
  · obtain rfl : bs = [] := List.eq_nil_of_length_eq_zero (by omega)
    exact cloneB_none x cap w

set_option maxRecDepth 100000 in
theorem acc_big (a : Option Addr) (n cap : Nat) (w : World) (hs : ¬ n ≤ 1048576) :
    Calls Try.prog 3 #[.slice a n cap] w fun e w' => e = .returned (.bool true) ∧ Below w.heap.size w w' := by
  go_enter Try.func3, Try.ntmps3
  go_wp2_with (go_at_call 7; refine (bytes7_no _ _ _ _ hs).mono ?_; rintro e w' ⟨rfl, rfl⟩)
  go_ret
  exact ⟨rfl, Below.refl _ _⟩

set_option maxRecDepth 100000 in
set_option maxHeartbeats 400000 in
theorem acc_nil (w : World) :
    Calls Try.prog 3 #[.slice none 0 0] w fun e w' => e = .returned (.bool true) ∧ Below w.heap.size w w' := by
  go_enter Try.func3, Try.ntmps3
  go_wp2_with (first
    | (go_at_call 7; refine (bytes7 _ _ _ _ (by omega)).mono ?_; rintro e w' ⟨rfl, rfl⟩)
    | (go_at_call 8; refine (cloneB_nil _).mono ?_; rintro e w' ⟨rfl, rfl⟩))
  go_loop [3, 4] (fun wt i => wt = .int .i64 (-1) ∧ i = .int .i64 0) (fun _ _ => 0)
  case atStart => exact ⟨rfl, rfl⟩
  case round =>
    obtain ⟨rfl, rfl⟩ := hrel
    go_wp2_with (go_at_call 9; refine (ucs_nil _).mono ?_; rintro e w1 ⟨⟨a, rfl⟩, hb⟩)
    go_ret
    exact ⟨rfl, hb⟩

set_option maxRecDepth 100000 in
set_option maxHeartbeats 1000000 in
theorem acc_no (bs : List Int) (x : Addr) (cap : Nat) (w : World) (hc : ∀ j, j < bs.length → w.cell? (x.add j) = some (.int .u8 (bs.getD j 0))) (hr : Byt bs) (hn : bs.length ≤ 1048576) (hz1 : ∀ j, 2 * j + 1 < bs.length → unit bs j ≠ 0) :
    Calls Try.prog 3 #[.slice (some x) bs.length cap] w fun e w' => e = .returned (.bool true) ∧ Below w.heap.size w w' := by
  have HZ1 : Hid (∀ j, 2 * j + 1 < bs.length → unit bs j ≠ 0) := hz1
  clear hz1
  go_enter Try.func3, Try.ntmps3
  go_wp2_with (first
    | (go_at_call 7; refine (bytes7 _ _ _ _ hn).mono ?_; rintro e w' ⟨rfl, rfl⟩)
    | (go_at_call 8; refine (cloneB_any bs x cap w hc (by omega)).mono ?_; rintro e w1 ⟨rfl, hown, hbl⟩))
  have hgl : w.heap.size < w1.heap.size := (hown.lt _ rfl).2
  have hcl := fun j hj => own_cells hown j hj
  clear hc
  go_loop [3, 4] (fun wt i => ∃ k m : Nat, m ≤ bs.length + 1 ∧ Hid (m = 2 * k) ∧ i = .int .i64 m ∧ wt = .int .i64 (-1)) (fun _ i => bs.length - (intOf i).toNat)
  case atStart => exact ⟨0, 0, Nat.zero_le _, rfl, rfl, rfl⟩
  case round =>
    obtain ⟨k, m, hmb, HM, rfl, rfl⟩ := hrel
    by_cases hlt : m + 1 < bs.length
    · obtain ⟨p, hp⟩ : ∃ p, p = bs.getD m 0 := ⟨_, rfl⟩
      obtain ⟨q, hq⟩ : ∃ q, q = bs.getD (m + 1) 0 := ⟨_, rfl⟩
      have hc0 : w1.cell? ⟨w.heap.size, m, none⟩ = some (.int .u8 p) := by rw [hp]; exact hcl m (by omega)
      have hc1 : w1.cell? ⟨w.heap.size, m + 1, none⟩ = some (.int .u8 q) := by rw [hq]; exact hcl (m + 1) hlt
      have hpq : ¬ (p = 0 ∧ q = 0) := by
        have h1 := HZ1.out k (by have := HM.out; omega)
        rw [Ne, unit_zero bs hr k, ← HM.out, ← hp, ← hq] at h1
        exact h1
      clear hp hq hcl
      by_cases hp0 : p = 0
      · have e1 : (p == 0) = true := by rw [beq_iff_eq]; exact hp0
        have e2 : (q == 0) = false := by rw [beq_eq_false_iff_ne]; exact fun h => hpq ⟨hp0, h⟩
        clear hpq hp0
        go_wp2
        go_round
        case rel => exact ⟨k + 1, m + 2, by omega, by have := HM.out; unfold Hid; omega, by go_num, rfl⟩
        case measure => simp [intOf]; omega
      · have e1 : (p == 0) = false := by rw [beq_eq_false_iff_ne]; exact hp0
        clear hpq hp0
        go_wp2
        go_round
        case rel => exact ⟨k + 1, m + 2, by omega, by have := HM.out; unfold Hid; omega, by go_num, rfl⟩
        case measure => simp [intOf]; omega
    · go_wp2_with (go_at_call 9; refine (ucs_no bs w.heap.size bs.length w1 hgl hcl hr (by omega) HZ1.out).mono ?_; rintro e w2 ⟨⟨a, rfl⟩, hb⟩)
      go_ret
      exact ⟨rfl, hbl.trans (hb.mono (by omega))⟩

set_option maxRecDepth 100000 in
set_option maxHeartbeats 1000000 in
theorem acc_yes (bs : List Int) (x : Addr) (cap z : Nat) (w : World) (hc : ∀ j, j < bs.length → w.cell? (x.add j) = some (.int .u8 (bs.getD j 0))) (hr : Byt bs) (hn : bs.length ≤ 1048576)
    (hz : 2 * z + 1 < bs.length) (hz0 : unit bs z = 0) (hz1 : ∀ j, j < z → unit bs j ≠ 0) :
    Calls Try.prog 3 #[.slice (some x) bs.length cap] w fun e w' => e = .returned (.bool true) ∧ Below w.heap.size w w' := by
  have HZ0 : Hid (unit bs z = 0) := hz0
  have HZ1 : Hid (∀ j, j < z → unit bs j ≠ 0) := hz1
  clear hz0 hz1
  go_enter Try.func3, Try.ntmps3
  go_wp2_with (first
    | (go_at_call 7; refine (bytes7 _ _ _ _ hn).mono ?_; rintro e w' ⟨rfl, rfl⟩)
    | (go_at_call 8; refine (cloneB_any bs x cap w hc (by omega)).mono ?_; rintro e w1 ⟨rfl, hown, hbl⟩))
  have hgl : w.heap.size < w1.heap.size := (hown.lt _ rfl).2
  have hcl := fun j hj => own_cells hown j hj
  clear hc
  go_loop [3, 4] (fun wt i => ∃ k m : Nat, k ≤ z ∧ Hid (m = 2 * k) ∧ i = .int .i64 m ∧ wt = .int .i64 (-1)) (fun _ i => bs.length - (intOf i).toNat)
  case atStart => exact ⟨0, 0, Nat.zero_le _, rfl, rfl, rfl⟩
  case round =>
    obtain ⟨k, m, hkz, HM, rfl, rfl⟩ := hrel
    have hlt : m + 1 < bs.length := by have := HM.out; omega
    obtain ⟨p, hp⟩ : ∃ p, p = bs.getD m 0 := ⟨_, rfl⟩
    obtain ⟨q, hq⟩ : ∃ q, q = bs.getD (m + 1) 0 := ⟨_, rfl⟩
    have hc0 : w1.cell? ⟨w.heap.size, m, none⟩ = some (.int .u8 p) := by rw [hp]; exact hcl m (by omega)
    have hc1 : w1.cell? ⟨w.heap.size, m + 1, none⟩ = some (.int .u8 q) := by rw [hq]; exact hcl (m + 1) hlt
    by_cases hkz2 : k = z
    · have h1 := HZ0.out
      rw [← hkz2, unit_zero bs hr k, ← HM.out, ← hp, ← hq] at h1
      have e1 : (p == 0) = true := by rw [beq_iff_eq]; exact h1.1
      have e2 : (q == 0) = true := by rw [beq_iff_eq]; exact h1.2
      have hts := text_size bs hr z
      have hcall := ucs_yes bs w.heap.size bs.length z w1 hgl hcl hr (by omega) hz HZ0.out HZ1.out
      obtain ⟨S, hS⟩ : ∃ S, S = runesBytes (dec16 (unitsTo bs z)) := ⟨_, rfl⟩
      rw [← hS] at hcall hts
      obtain ⟨t1, t2⟩ := hts
      obtain rfl : m = 2 * z := by rw [HM.out, hkz2]
      clear h1 hp hq hcl hS hkz2
      go_wp2_with (go_at_call 9; refine hcall.mono ?_; rintro e w2 ⟨rfl, hb⟩)
      go_ret
      refine ⟨?_, hbl.trans (hb.mono (by omega))⟩
      show Ending.returned (.bool (decide ((S.size : Int) ≤ 3 * (z : Int)))) = _
      rw [decide_eq_true (by omega)]
    · have hpq : ¬ (p = 0 ∧ q = 0) := by
        have h1 := HZ1.out k (by omega)
        rw [Ne, unit_zero bs hr k, ← HM.out, ← hp, ← hq] at h1
        exact h1
      clear hp hq hcl
      by_cases hp0 : p = 0
      · have e1 : (p == 0) = true := by rw [beq_iff_eq]; exact hp0
        have e2 : (q == 0) = false := by rw [beq_eq_false_iff_ne]; exact fun h => hpq ⟨hp0, h⟩
        clear hpq hp0
        go_wp2
        go_round
        case rel => exact ⟨k + 1, m + 2, by omega, by have := HM.out; unfold Hid; omega, by go_num, rfl⟩
        case measure => simp [intOf]; omega
      · have e1 : (p == 0) = false := by rw [beq_eq_false_iff_ne]; exact hp0
        clear hpq hp0
        go_wp2
        go_round
        case rel => exact ⟨k + 1, m + 2, by omega, by have := HM.out; unfold Hid; omega, by go_num, rfl⟩
        case measure => simp [intOf]; omega

/-- What the walk is told of a slice of integers that came in (the kit's shell's own words). -/
def IsRow (k : IntKind) (w : World) (a : Option Addr) (len cap : Nat) (zs : List Int) : Prop :=
  (a = none ∧ len = 0 ∧ cap = 0 ∧ zs = []) ∨
  ∃ x, a = some x ∧ len ≤ cap ∧ cap ≤ maxLen ∧ zs.length = cap ∧ (∀ i, i < zs.length → w.cell? (x.add i) = some (.int k (zs.getD i 0))) ∧ ∀ n ∈ zs, (Lit.int k n).wf = true

theorem take_getD (zs : List Int) (n j : Nat) (hj : j < n) : (zs.take n).getD j 0 = zs.getD j 0 := by
  simp [List.getD, List.getElem?_take_of_lt hj]

theorem byt_of_wf (zs : List Int) (n : Nat) (h : ∀ x ∈ zs, (Lit.int .u8 x).wf = true) : Byt (zs.take n) := by
  intro j
  rcases Nat.lt_or_ge j (zs.take n).length with hj | hj
  · have hm : (zs.take n).getD j 0 ∈ zs := by
      have e : (zs.take n).getD j 0 = (zs.take n)[j] := by simp [List.getD, List.getElem?_eq_getElem hj]
      rw [e]
      exact List.mem_of_mem_take (List.getElem_mem hj)
    have := h _ hm
    revert this
    generalize (zs.take n).getD j 0 = y
    intro this
    simp [Lit.wf, IntKind.min, IntKind.max, IntKind.signed, IntKind.bits] at this
    omega
  · have e : (zs.take n).getD j 0 = 0 := by simp only [List.getD, List.getElem?_eq_none hj]; rfl
    rw [e]; omega

theorem acc_walk (a0 : Option Addr) (len0 cap0 : Nat) (z0 : List Int) (w : World) (w0 : IsRow .u8 w a0 len0 cap0 z0) :
    Calls Try.prog 3 #[.slice a0 len0 cap0] w fun e w' => e = .returned (.bool true) ∧ Below w.heap.size w w' := by
  by_cases hb : ¬ len0 ≤ 1048576
  · exact acc_big a0 len0 cap0 w hb
  rcases w0 with ⟨rfl, rfl, rfl, rfl⟩ | ⟨x, rfl, hlc, hm, hz, hc, hwf⟩
  · exact acc_nil w
  · have hlen : (z0.take len0).length = len0 := by simp; omega
    have hby := byt_of_wf z0 len0 hwf
    have hcl : ∀ j, j < (z0.take len0).length → w.cell? (x.add j) = some (.int .u8 ((z0.take len0).getD j 0)) := fun j hj => by
      rw [take_getD z0 len0 j (by omega)]; exact hc j (by omega)
    have hn : (z0.take len0).length ≤ 1048576 := by omega
    by_cases hex : ∃ z, 2 * z + 1 < (z0.take len0).length ∧ unit (z0.take len0) z = 0
    · obtain ⟨z1, hz1⟩ := hex
      obtain ⟨z, ⟨h1, h2⟩, h3⟩ := first_of (fun z => 2 * z + 1 < (z0.take len0).length ∧ unit (z0.take len0) z = 0) z1 hz1
      have := acc_yes (z0.take len0) x cap0 z w hcl hby hn h1 h2 (fun j hj h => h3 j hj ⟨by omega, h⟩)
      rwa [hlen] at this
    · have := acc_no (z0.take len0) x cap0 w hcl hby hn (fun j hj h => hex ⟨j, hj, h⟩)
      rwa [hlen] at this
end Go.Proofs.Qxb6002374a
