/- Plain: how long the text of the units is; the first zero unit. -/
import Derived.Test.Qxb6002374aEnc
namespace Go.Proofs.Qxb6002374a
open Go

theorem first_of (P : Nat → Prop) (n : Nat) (h : P n) : ∃ z, P z ∧ ∀ j, j < z → ¬ P j := by
  induction n using Nat.strongRecOn with
  | _ n ih =>
    by_cases hx : ∃ m, m < n ∧ P m
    · obtain ⟨m, hm, hp⟩ := hx
      exact ih m hm hp
    · exact ⟨n, h, fun j hj hp => hx ⟨j, hj, hp⟩⟩

theorem enc8_bmp_len (r : Int) (h : r < 65536) : 1 ≤ (enc8 r).length ∧ (enc8 r).length ≤ 3 := by
  unfold enc8
  split
  · simp
  · split
    · simp
    · simp

def U16 (us : List Int) : Prop := ∀ u ∈ us, 0 ≤ u ∧ u ≤ 65535

theorem pair_range (u v : Int) (h1 : 55296 ≤ u) (h2 : u < 56320) (h3 : 56320 ≤ v) (h4 : v < 57344) : 65536 ≤ pair u v ∧ pair u v < 1114112 := by
  unfold pair; omega

/-- Every rune is a scalar value. -/
theorem dec16_scal : ∀ us : List Int, U16 us → ∀ r ∈ dec16 us, Scal r
  | [], _, r, hr => by simp [dec16] at hr
  | [u], h, r, hr => by
    have hu := h u (by simp)
    unfold dec16 at hr
    simp at hr
    subst hr
    unfold Scal
    split <;> omega
  | u :: v :: rest, h, r, hr => by
    have hu := h u (by simp)
    have hv := h v (by simp)
    by_cases h1 : u < 55296 ∨ 57344 ≤ u
    · rw [dec16_bmp u _ h1] at hr
      rcases List.mem_cons.1 hr with e | hr
      · subst e; unfold Scal; omega
      · exact dec16_scal (v :: rest) (fun x hx => h x (List.mem_cons_of_mem _ hx)) r hr
    · by_cases h2 : u < 56320 ∧ 56320 ≤ v ∧ v < 57344
      · rw [dec16_pair u v rest (by omega) h2.1 h2.2.1 h2.2.2] at hr
        rcases List.mem_cons.1 hr with e | hr
        · have := pair_range u v (by omega) h2.1 h2.2.1 h2.2.2
          subst e; unfold Scal; omega
        · exact dec16_scal rest (fun x hx => h x (List.mem_cons_of_mem _ (List.mem_cons_of_mem _ hx))) r hr
      · rw [dec16_rep u (v :: rest) (by omega) (by omega) (by rintro v' r' e hc; injection e with e1 _; subst e1; exact h2 hc)] at hr
        rcases List.mem_cons.1 hr with e | hr
        · subst e; unfold Scal; omega
        · exact dec16_scal (v :: rest) (fun x hx => h x (List.mem_cons_of_mem _ hx)) r hr

theorem dec16_len : ∀ us : List Int, U16 us → us.length ≤ ((dec16 us).flatMap enc8).length ∧ ((dec16 us).flatMap enc8).length ≤ 3 * us.length
  | [], _ => by simp [dec16]
  | [u], h => by
    have hu := h u (by simp)
    have h1 := enc8_bmp_len (if u < 55296 ∨ 57344 ≤ u then u else 65533) (by split <;> omega)
    unfold dec16
    simpa using h1
  | u :: v :: rest, h => by
    have hu := h u (by simp)
    have hv := h v (by simp)
    by_cases h1 : u < 55296 ∨ 57344 ≤ u
    · have ih := dec16_len (v :: rest) (fun x hx => h x (List.mem_cons_of_mem _ hx))
      have e := enc8_bmp_len u (by omega)
      rw [dec16_bmp u _ h1, List.flatMap_cons, List.length_append]
      simp only [List.length_cons] at ih ⊢
      omega
    · by_cases h2 : u < 56320 ∧ 56320 ≤ v ∧ v < 57344
      · have ih := dec16_len rest (fun x hx => h x (List.mem_cons_of_mem _ (List.mem_cons_of_mem _ hx)))
        have hr := pair_range u v (by omega) h2.1 h2.2.1 h2.2.2
        have e : (enc8 (pair u v)).length = 4 := by
          unfold enc8
          rw [if_neg (by omega), if_neg (by omega), if_neg (by omega)]
          rfl
        rw [dec16_pair u v rest (by omega) h2.1 h2.2.1 h2.2.2, List.flatMap_cons, List.length_append, e]
        simp only [List.length_cons]
        omega
      · have ih := dec16_len (v :: rest) (fun x hx => h x (List.mem_cons_of_mem _ hx))
        have e := enc8_bmp_len 65533 (by omega)
        rw [dec16_rep u (v :: rest) (by omega) (by omega) (by rintro v' r' e hc; injection e with e1 _; subst e1; exact h2 hc), List.flatMap_cons, List.length_append]
        simp only [List.length_cons] at ih ⊢
        omega

theorem unitsTo_u16 (bs : List Int) (h : Byt bs) (k : Nat) : U16 (unitsTo bs k) := by
  intro u hu
  simp [unitsTo] at hu
  obtain ⟨j, _, rfl⟩ := hu
  exact unit_range bs h j

theorem text_size (bs : List Int) (h : Byt bs) (k : Nat) : k ≤ (runesBytes (dec16 (unitsTo bs k))).size ∧ (runesBytes (dec16 (unitsTo bs k))).size ≤ 3 * k := by
  have hu := unitsTo_u16 bs h k
  have hl := dec16_len _ hu
  rw [unitsTo_length] at hl
  rw [runes_bytes _ (dec16_scal _ hu), bytesStr_size]
  exact hl

theorem unit_zero (bs : List Int) (h : Byt bs) (k : Nat) : unit bs k = 0 ↔ bs.getD (2 * k) 0 = 0 ∧ bs.getD (2 * k + 1) 0 = 0 := by
  have h1 := h (2 * k)
  have h2 := h (2 * k + 1)
  unfold unit
  omega
end Go.Proofs.Qxb6002374a
