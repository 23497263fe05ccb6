/- The walk of efi.DecodeUCS2. -/
import Derived.Test.Qxb6002374aUcs
import Derived.Test.Qxb6002374aUnits
import Derived.Deep.QuietTactic
import Derived.BigQuiet
import Derived.Laws.Cover4
namespace Go.Proofs.Qxb6002374a
open Go.RowKit
theorem info36 : (Try.prog.info? 36).map (fun i => (i.zero, i.size, i.bytes)) = some (some (.int .u16 0), 1, 2) := by kernel_rfl

theorem ret3_int {s s' err : Value} {a b : Int} (hs : s = s') (h : a = b) : Ending.returned (.tuple #[s, .int .i64 a, err]) = .returned (.tuple #[s', .int .i64 b, err]) := by rw [hs, h]

theorem add_zero_addr (g j : Nat) : (⟨g, 0, none⟩ : Addr).add j = ⟨g, j, none⟩ := by
  cases j <;> simp [Addr.add]

theorem own_cells {B e g cap : Nat} {kd : IntKind} {w : World} {xs : List Int} (h : w.ownsRow B e 1 (.slice (some ⟨g, 0, none⟩) xs.length cap) xs.length (xs.map (Value.int kd))) (j : Nat) (hj : j < xs.length) :
    w.cell? ⟨g, j, none⟩ = some (.int kd (xs.getD j 0)) := by
  have := h.cells (g := g) rfl j (.int kd (xs.getD j 0)) (by simp [List.getD, List.getElem?_eq_getElem hj])
  rwa [add_zero_addr] at this

theorem own_runes {B : Nat} {v : Value} {w : World} {rs : List Int} (h : w.ownsRow B 21 1 v rs.length (rs.map (Value.int .i32))) : (convert 39 9 v).run Try.prog w = .ok (.string (runesBytes rs)) w := by
  rcases h.2 with ⟨rfl, hn⟩ | ⟨g, cap, cur, rfl, _⟩
  · obtain rfl := List.eq_nil_of_length_eq_zero hn
    exact run_convert_runes_nil w 39 9 21 0 0 Try.underlying39 Try.underlying21 Try.underlying9
  · have := run_convert_runes (P := Try.prog) w 39 9 21 ⟨g, 0, none⟩ rs.length cap rs (Nat.le_refl _) Try.underlying39 Try.underlying21 Try.underlying9 (fun j hj => by
      rw [add_zero_addr]; exact own_cells h j hj)
    simpa using this

set_option maxRecDepth 100000 in
set_option maxHeartbeats 1000000 in
theorem ucs_yes (bs : List Int) (blk cap z : Nat) (w : World) (hg : blk < w.heap.size) (hc : ∀ j, j < bs.length → w.cell? ⟨blk, j, none⟩ = some (.int .u8 (bs.getD j 0)))
    (hr : Byt bs) (hn : bs.length ≤ 2097152) (hz : 2 * z + 1 < bs.length) (hz0 : unit bs z = 0) (hz1 : ∀ j, j < z → unit bs j ≠ 0) :
    Calls Try.prog 9 #[.slice (some ⟨blk, 0, none⟩) bs.length cap] w fun e w' => e = .returned (.tuple #[.string (runesBytes (dec16 (unitsTo bs z))), .int .i64 (2 * z + 2 : Nat), .nilIface]) ∧ Below w.heap.size w w' := by
  obtain ⟨i0, hi, hi0, hi1, hi2⟩ := info_parts info36
  have HZ0 : Hid (unit bs z = 0) := hz0
  have HZ1 : Hid (∀ j, j < z → unit bs j ≠ 0) := hz1
  clear hz0 hz1
  go_enter Try.func9, Try.ntmps9
  go_wp2
  go_loopw [5, 6] (fun u i wr => ∃ (k m : Nat), k ≤ z ∧ Hid (m = 2 * k) ∧ i = .int .i64 m ∧ wr.ownsRow w.heap.size 36 1 u (unitsTo bs k).length ((unitsTo bs k).map (Value.int .u16)) ∧ Below w.heap.size w wr) (fun _ i _ => bs.length - (intOf i).toNat)
  case atStart => exact ⟨0, 0, Nat.zero_le _, rfl, rfl, World.ownsRow_nil _ _ _ _, Below.refl _ _⟩
  case round =>
    obtain ⟨k, m, hk, HM, rfl, hown, hbl⟩ := hrel
    have hm := HM.out
    have hlt : m + 1 < bs.length := by omega
    have hlt2 : (m : Int) + 1 < (bs.length : Int) := by omega
    obtain ⟨x, hx⟩ : ∃ x, x = bs.getD m 0 := ⟨_, rfl⟩
    obtain ⟨y, hy⟩ : ∃ y, y = bs.getD (m + 1) 0 := ⟨_, rfl⟩
    have hc0 : wr.cell? ⟨blk, m, none⟩ = some (.int .u8 x) := by rw [hx, hbl.cell (p := ⟨blk, m, none⟩) hg]; exact hc m (by omega)
    have hc1 : wr.cell? ⟨blk, m + 1, none⟩ = some (.int .u8 y) := by rw [hy, hbl.cell (p := ⟨blk, m + 1, none⟩) hg]; exact hc (m + 1) (by omega)
    have hx1 : 0 ≤ x ∧ x ≤ 255 := by rw [hx]; exact hr m
    have hy1 : 0 ≤ y ∧ y ≤ 255 := by rw [hy]; exact hr (m + 1)
    have hu : unit bs k = x + 256 * y := by unfold unit; rw [hx, hy, hm]
    have hbt := u16_or_join x y hx1.1 (by omega) hy1.1 (by omega)
    rw [← hu] at hbt
    obtain ⟨q, hq⟩ : ∃ q, q = unit bs k := ⟨_, rfl⟩
    rw [← hq] at hbt
    have HQ : Hid (q = unit bs k) := hq
    clear hx hy hm hc hu hq
    have hlen := unitsTo_length bs k
    have HL : Hid ((unitsTo bs k).length = k) := hlen
    by_cases hkz : k = z
    · subst hkz
      have hq0 : (q == 0) = true := by rw [HQ.out, HZ0.out]; rfl
      clear hlen
      go_wp2
      go_quiet (fail)
      clear hc0 hc1 hbt
      have hs := hbl.size
      rcases hown.2 with ⟨rfl, hnn⟩ | ⟨g, cp, cur, rfl, hg1, hg2, _⟩
      · obtain rfl : k = 0 := by rw [HL.out] at hnn; exact hnn
        go_wp2_with (go_at_call 14; refine (Decode_nil _).mono ?_; rintro e w1 ⟨v', rfl, hown2, hb2⟩; have hcv := own_runes hown2)
        go_ret3
        exact ⟨ret3_int rfl (by have := HM.out; omega), (below_drewN hbl nq).trans (hb2.mono hs)⟩
      · have hgl : g < wr.heap.size := (Array.getElem?_eq_some_iff.1 hg2).1
        go_wp2_with (go_at_call 14; refine (Decode_some (unitsTo bs k) g cp (wr.drewN nq) hgl (fun j hj => own_cells hown j hj) (unitsTo_range bs hr k) (by rw [HL.out]; omega)).mono ?_; rintro e w1 ⟨v', rfl, hown2, hb2⟩; have hcv := own_runes hown2)
        go_ret3
        exact ⟨ret3_int rfl (by have := HM.out; omega), (below_drewN hbl nq).trans (hb2.mono hs)⟩
    · have hq0 : (q == 0) = false := by rw [HQ.out, beq_eq_false_iff_ne]; exact HZ1.out k (by omega)
      go_wp2
      go_quiet (fail)
      clear hc0 hc1 hbt
      go_wp2_with (at_builtin; refine wpList_append_own _ rfl _ _ 38 rfl w.heap.size 36 i0 (.int .u16 0) 1 2 Try.underlying38 hi hi0 hi1 hi2 rfl (by decide) _ _ _ rfl (World.ownsRow.alloc (w := wr.drewN nq) hown _) ⟨wr.heap.size, 0, none⟩ 1 1 [.int .u16 q] rfl rfl (cell_one_new _ _ _) (ints_oneCell .u16 [q]) (by rw [HL.out]; unfold maxLen; omega) (by rw [HL.out]; omega) (by have := hbl.size; simp; omega) ?_; intro v' w1 hown' hgrow _)
      have R := own_snoc (wr := wr.drewN nq) (Nat.le_refl _) (below_drewN hbl nq) hown hown' hgrow
      clear hown' hgrow hown
      go_roundw
      case rel => exact ⟨k + 1, m + 2, by omega, by have := HM.out; unfold Hid; omega, by go_num, by rw [unitsTo_succ, ← HQ.out]; exact R.1, R.2⟩
      case measure => simp [intOf]; omega
set_option maxRecDepth 100000 in
set_option maxHeartbeats 1000000 in
theorem ucs_no (bs : List Int) (blk cap : Nat) (w : World) (hg : blk < w.heap.size) (hc : ∀ j, j < bs.length → w.cell? ⟨blk, j, none⟩ = some (.int .u8 (bs.getD j 0)))
    (hr : Byt bs) (hn : bs.length ≤ 2097152) (hz1 : ∀ j, 2 * j + 1 < bs.length → unit bs j ≠ 0) :
    Calls Try.prog 9 #[.slice (some ⟨blk, 0, none⟩) bs.length cap] w fun e w' => (∃ a, e = .returned (.tuple #[.string ⟨#[]⟩, .int .i64 0, .iface 43 (.pointer (some a))])) ∧ Below w.heap.size w w' := by
  obtain ⟨i0, hi, hi0, hi1, hi2⟩ := info_parts info36
  have HZ1 : Hid (∀ j, 2 * j + 1 < bs.length → unit bs j ≠ 0) := hz1
  clear hz1
  go_enter Try.func9, Try.ntmps9
  go_wp2
  go_loopw [5, 6] (fun u i wr => ∃ (k m : Nat), m ≤ bs.length + 1 ∧ Hid (m = 2 * k) ∧ i = .int .i64 m ∧ wr.ownsRow w.heap.size 36 1 u (unitsTo bs k).length ((unitsTo bs k).map (Value.int .u16)) ∧ Below w.heap.size w wr) (fun _ i _ => bs.length - (intOf i).toNat)
  case atStart => exact ⟨0, 0, Nat.zero_le _, rfl, rfl, World.ownsRow_nil _ _ _ _, Below.refl _ _⟩
  case round =>
    obtain ⟨k, m, hk, HM, rfl, hown, hbl⟩ := hrel
    have hm := HM.out
    by_cases hlt0 : ¬ m + 1 < bs.length
    · go_wp2
      go_ret3
      exact ⟨⟨_, rfl⟩, hbl.alloc hbl.size _⟩
    have hlt : m + 1 < bs.length := by omega
    have hkb : k ≤ bs.length := by omega
    clear hlt0
    have hlt2 : (m : Int) + 1 < (bs.length : Int) := by omega
    obtain ⟨x, hx⟩ : ∃ x, x = bs.getD m 0 := ⟨_, rfl⟩
    obtain ⟨y, hy⟩ : ∃ y, y = bs.getD (m + 1) 0 := ⟨_, rfl⟩
    have hc0 : wr.cell? ⟨blk, m, none⟩ = some (.int .u8 x) := by rw [hx, hbl.cell (p := ⟨blk, m, none⟩) hg]; exact hc m (by omega)
    have hc1 : wr.cell? ⟨blk, m + 1, none⟩ = some (.int .u8 y) := by rw [hy, hbl.cell (p := ⟨blk, m + 1, none⟩) hg]; exact hc (m + 1) (by omega)
    have hx1 : 0 ≤ x ∧ x ≤ 255 := by rw [hx]; exact hr m
    have hy1 : 0 ≤ y ∧ y ≤ 255 := by rw [hy]; exact hr (m + 1)
    have hu : unit bs k = x + 256 * y := by unfold unit; rw [hx, hy, hm]
    have hbt := u16_or_join x y hx1.1 (by omega) hy1.1 (by omega)
    rw [← hu] at hbt
    obtain ⟨q, hq⟩ : ∃ q, q = unit bs k := ⟨_, rfl⟩
    rw [← hq] at hbt
    have HQ : Hid (q = unit bs k) := hq
    clear hx hy hm hc hu hq
    have hlen := unitsTo_length bs k
    have HL : Hid ((unitsTo bs k).length = k) := hlen
    have hq0 : (q == 0) = false := by rw [HQ.out, beq_eq_false_iff_ne]; exact HZ1.out k (by have := HM.out; omega)
    go_wp2
    go_quiet (fail)
    clear hc0 hc1 hbt
    go_wp2_with (at_builtin; refine wpList_append_own _ rfl _ _ 38 rfl w.heap.size 36 i0 (.int .u16 0) 1 2 Try.underlying38 hi hi0 hi1 hi2 rfl (by decide) _ _ _ rfl (World.ownsRow.alloc (w := wr.drewN nq) hown _) ⟨wr.heap.size, 0, none⟩ 1 1 [.int .u16 q] rfl rfl (cell_one_new _ _ _) (ints_oneCell .u16 [q]) (by rw [HL.out]; unfold maxLen; omega) (by rw [HL.out]; omega) (by have := hbl.size; simp; omega) ?_; intro v' w1 hown' hgrow _)
    have R := own_snoc (wr := wr.drewN nq) (Nat.le_refl _) (below_drewN hbl nq) hown hown' hgrow
    clear hown' hgrow hown
    go_roundw
    case rel => exact ⟨k + 1, m + 2, by omega, by have := HM.out; unfold Hid; omega, by go_num, by rw [unitsTo_succ, ← HQ.out]; exact R.1, R.2⟩
    case measure => simp [intOf]; omega

theorem ucs_nil (w : World) : Calls Try.prog 9 #[.slice none 0 0] w fun e w' => (∃ a, e = .returned (.tuple #[.string ⟨#[]⟩, .int .i64 0, .iface 43 (.pointer (some a))])) ∧ Below w.heap.size w w' := by
  go_enter Try.func9, Try.ntmps9
  go_wp2
  go_loopw [6] (fun i wr => i = .int .i64 0 ∧ wr = w) (fun _ _ => 0)
  case atStart => exact ⟨rfl, rfl⟩
  case round =>
    obtain ⟨rfl, rfl⟩ := hrel
    go_wp2
    go_ret3
    exact ⟨⟨_, rfl⟩, (Below.refl _ _).alloc (Nat.le_refl _) _⟩
end Go.Proofs.Qxb6002374a
