/- The walk of FnDecodeUCS2LoneSurrogateIsReplacement. -/
import Derived.Test.Qxb6002374aApp
namespace Go.Proofs.Qxb6002374a
open Go.RowKit

theorem own_below {B e : Nat} {v : Value} {n : Nat} {xs : List Value} {w w' : World} (h : w.ownsRow B e 1 v n xs) (hb : Below w.heap.size w w') : w'.ownsRow B e 1 v n xs := by
  refine ⟨h.1, ?_⟩
  rcases h.2 with h2 | ⟨g, cap, cur, hv, hg, hh, r⟩
  · exact .inl h2
  · exact .inr ⟨g, cap, cur, hv, hg, by rw [hb.block g (Array.getElem?_eq_some_iff.1 hh).1]; exact hh, r⟩

/-- The six bytes. -/
def six (u c : Int) : List Int := [u % 256, u / 256, c % 256, c / 256, 0, 0]

theorem six_byt (u c : Int) (hu : 0 ≤ u) (hu2 : u ≤ 65535) (hc : 0 ≤ c) (hc2 : c ≤ 65535) : Byt (six u c) := by
  intro j
  unfold six
  match j with
  | 0 => simp; omega
  | 1 => simp; omega
  | 2 => simp; omega
  | 3 => simp; omega
  | 4 => simp
  | 5 => simp
  | j + 6 => simp

theorem six_units (u c : Int) : unit (six u c) 0 = u ∧ unit (six u c) 1 = c ∧ unit (six u c) 2 = 0 := by
  unfold unit six
  simp
  omega

theorem six_to (u c : Int) : unitsTo (six u c) 2 = [u, c] := by
  obtain ⟨h0, h1, _⟩ := six_units u c
  show [unit (six u c) 0, unit (six u c) 1] = _
  rw [h0, h1]

theorem six_text (u c : Int) (hu1 : 55296 ≤ u) (hu2 : u ≤ 57343) (hc0 : 0 < c) (hc1 : c < 55296 ∨ 57343 < c) (hc2 : c ≤ 65535) :
    runesBytes (dec16 (unitsTo (six u c) 2)) = bytesStr ([239, 191, 189] ++ enc8 c) := by
  rw [six_to, dec16_rep u [c] hu1 (by omega) (by rintro v r' e ⟨_, h2, h3⟩; injection e with e1 _; omega), dec16_bmp c [] (by omega)]
  rw [runes_bytes]
  · have e : enc8 65533 = [239, 191, 189] := by decide
    simp [dec16, List.flatMap_cons, e]
  · intro r hr
    simp [dec16] at hr
    unfold Scal
    omega

/-- DecodeUCS2 at the six bytes. -/
theorem six_call (u c : Int) (blk : Nat) (w : World) (hg : blk < w.heap.size) (hcells : ∀ j, j < (six u c).length → w.cell? ⟨blk, j, none⟩ = some (.int .u8 ((six u c).getD j 0))) (hu1 : 55296 ≤ u) (hu2 : u ≤ 57343) (hc0 : 0 < c) (hc1 : c < 55296 ∨ 57343 < c) (hc2 : c ≤ 65535) :
    Calls Try.prog 9 #[.slice (some ⟨blk, 0, none⟩) 6 6] w fun e w' => e = .returned (.tuple #[.string (bytesStr ([239, 191, 189] ++ enc8 c)), .int .i64 6, .nilIface]) ∧ Below w.heap.size w w' := by
  obtain ⟨h0, h1, h2⟩ := six_units u c
  have h := ucs_yes (six u c) blk 6 2 w hg hcells (six_byt u c (by omega) (by omega) (by omega) hc2) (by unfold six; simp) (by unfold six; simp) h2 (fun j hj => by
    match j, hj with
    | 0, _ => rw [h0]; omega
    | 1, _ => rw [h1]; omega)
  rw [six_text u c hu1 hu2 hc0 hc1 hc2] at h
  exact h

theorem lit3 (w : World) (B n : Nat) (hB : B ≤ w.heap.size) (hn : n = w.heap.size) :
    (w.alloc (.cells #[.int .u8 239, .int .u8 191, .int .u8 189] 5)).ownsRow B 5 1 (.slice (some ⟨n, 0, none⟩) 3 3) ([239, 191, 189] : List Int).length (([239, 191, 189] : List Int).map (Value.int .u8)) := by
  subst hn
  exact World.ownsRow_lit w _ 3 hB (by unfold maxLen; omega) rfl

set_option maxRecDepth 100000 in
set_option maxHeartbeats 400000 in
theorem lone_go (u c : Int) (w : World) (hu1 : 55296 ≤ u) (hu2 : u ≤ 57343) (hc0 : 0 < c) (hc1 : c < 55296 ∨ 57343 < c) (hc2 : c ≤ 65535) :
    Calls Try.prog 6 #[.int .u16 u, .int .u16 c] w fun e w' => e = .returned (.bool true) ∧ Below w.heap.size w w' := by
  have HC : Hid (c < 55296 ∨ 57343 < c) := hc1
  have hcz : (c == 0) = false := by rw [beq_eq_false_iff_ne]; omega
  rcases hc1 with hc1 | hc1
  all_goals
    go_enter Try.func6, Try.ntmps6
    go_wp2_with fail
    refine (app_any [239, 191, 189] (w.heap.size + 1) _ c _ (by simp) (lit3 _ (w.heap.size + 1) (w.heap.size + 1) (by simp) (by simp)) (by simp) (by omega) (by omega)).mono ?_
    rintro e w3 ⟨v', rfl, hown, hb⟩
    have hs3 := hb.size
    simp only [World.size_alloc] at hs3
    have hcl : ∀ j, j < (six u c).length → w3.cell? ⟨w.heap.size, j, none⟩ = some (.int .u8 ((six u c).getD j 0)) := by
      intro j hj
      rw [hb.cell (p := ⟨w.heap.size, j, none⟩) (by simp), World.cell?_alloc_past _ _ _ (by simp), World.cell?_alloc_at _ _ _ _ rfl]
      unfold six at hj ⊢
      match j, hj with
      | 0, _ => rfl
      | 1, _ => rfl
      | 2, _ => rfl
      | 3, _ => rfl
      | 4, _ => rfl
      | 5, _ => rfl
      | j + 6, h => exact absurd h (by simp)
    go_wp2_with (go_at_call 9; refine (six_call u c w.heap.size w3 (by omega) hcl hu1 hu2 hc0 HC.out hc2).mono ?_; rintro e w4 ⟨rfl, hb4⟩; have hcv := own_bytes (own_below hown hb4))
    go_ret
    exact ⟨rfl, (((Below.refl _ w).alloc (Nat.le_refl _) _).alloc (by simp) _).trans ((hb.mono (by omega)).trans (hb4.mono (by omega)))⟩

theorem lone_walk (a0 : Int) (a1 : Int) (w0 : (Lit.int .u16 a0).wf = true) (w1 : (Lit.int .u16 a1).wf = true) (w : World) :
    Calls Try.prog 6 #[.int .u16 a0, .int .u16 a1] w fun e w' => e = .returned (.bool true) ∧ Below w.heap.size w w' := by
  have hw0 : 0 ≤ a0 ∧ a0 ≤ 65535 := by simp [Lit.wf, IntKind.min, IntKind.max, IntKind.signed, IntKind.bits] at w0; omega
  have hw1 : 0 ≤ a1 ∧ a1 ≤ 65535 := by simp [Lit.wf, IntKind.min, IntKind.max, IntKind.signed, IntKind.bits] at w1; omega
  clear w0 w1
  by_cases h1 : a0 < 55296
  · go_enter Try.func6, Try.ntmps6
    go_wp2
    go_ret
    exact ⟨rfl, Below.refl _ _⟩
  by_cases h2 : 57343 < a0
  · go_enter Try.func6, Try.ntmps6
    go_wp2
    go_ret
    exact ⟨rfl, Below.refl _ _⟩
  by_cases h3 : a1 = 0
  · subst h3
    go_enter Try.func6, Try.ntmps6
    go_wp2
    go_ret
    exact ⟨rfl, Below.refl _ _⟩
  by_cases h4 : 55296 ≤ a1 ∧ a1 ≤ 57343
  · obtain ⟨h4, h5⟩ := h4
    go_enter Try.func6, Try.ntmps6
    go_wp2
    go_ret
    exact ⟨rfl, Below.refl _ _⟩
  exact lone_go a0 a1 w (by omega) (by omega) (by omega) (by omega) (by omega)
end Go.Proofs.Qxb6002374a
