/- FnSummarizeMatchesModel: the row. The frame is the kit's; the walk lies in Qxb6001780aMain. -/
import Derived.Test.Qxb6001780aRows
import Derived.WalkKit
import Derived.ProofKit
import Derived.OpenShut
import Derived.ShutString
import Derived.ChangeOld
import Derived.Below
import Derived.Deep.Slices
import Derived.Deep.Strs
import Derived.Test.Qxb6001780aMain
namespace Go.Proofs.Qxb6001780a
open Go Go.RowKit

theorem cells34' : Try.prog.cellsOf 34 = 3 := by kernel_rfl
theorem cells2' : Try.prog.cellsOf 2 = 1 := by kernel_rfl
theorem cells9' : Try.prog.cellsOf 9 = 1 := by kernel_rfl

/-- What came in, as records. -/
theorem open_recs {H : Type} {enc : TypeId × Value → H} {W : World} {base : Nat} {spare : Nat → Bool} {held : Bool} {fuel : Nat} {a0 : Option Addr} {len0 cap0 : Nat} {x : DataW H × List MemPlace}
    (h : DataW.trod enc Try.prog W base spare held fuel 22 (Value.slice a0 len0 cap0).cells.toList = some x) : ∃ os : List Rec, os.length = len0 ∧ In3 W a0 cap0 os ∧ ∀ j, j < os.length → (os.getD j rec0).err.size ≤ maxLen := by
  rcases Deep.open_slice Try.underlying22 h with ⟨hcs, _⟩ | ⟨a, len, cap, m, n, D, Pl, hcs, _, hl, hm, hmm, _, hx⟩
  · simp [Value.cells] at hcs
    obtain ⟨rfl, rfl, rfl⟩ := hcs
    exact ⟨[], rfl, .inl ⟨rfl, rfl, rfl⟩, fun j hj => absurd hj (Nat.not_lt_zero _)⟩
  · simp [Value.cells] at hcs
    obtain ⟨rfl, rfl, rfl⟩ := hcs
    have hlm : len0 ≤ m := by rw [hmm]; split <;> omega
    have hex : ∀ i, ∃ r : Rec, i < len0 → (W.cell? ((a.add (i * 3)).add 0) = some (.int .i64 r.lat) ∧ W.cell? ((a.add (i * 3)).add 1) = some (.int .i64 r.byt) ∧ W.cell? ((a.add (i * 3)).add 2) = some (.string r.err)) ∧ r.err.size ≤ maxLen := fun i => by
      by_cases hi : i < len0
      · obtain ⟨cs', c1, c2⟩ := hx i (by omega)
        rw [cells34'] at c1
        obtain ⟨_, hl3, hcell⟩ := World.cells?_some c1
        obtain ⟨y0, y1, y2, n', _, _, t0, t1, t2⟩ := Deep.trod_struct3 Try.underlying34 c2
        match cs', hl3 with
        | [v0, v1, v2], _ =>
          simp only [cells2', cells9', List.drop_zero, List.drop_succ_cons, List.take_succ_cons, List.take_zero] at t0 t1 t2
          obtain ⟨z0, e0, _⟩ := DataW.trod_int Try.underlying2 t0
          obtain ⟨z1, e1, _⟩ := DataW.trod_int Try.underlying2 t1
          obtain ⟨s2, e2, _, hs⟩ := DataW.trod_string Try.underlying9 t2
          obtain rfl : v0 = _ := by simpa using e0
          obtain rfl : v1 = _ := by simpa using e1
          obtain rfl : v2 = _ := by simpa using e2
          exact ⟨⟨z0, z1, s2⟩, fun _ => ⟨⟨hcell 0 (by omega), hcell 1 (by omega), hcell 2 (by omega)⟩, hs⟩⟩
      · exact ⟨rec0, fun h => absurd h hi⟩
    obtain ⟨f, hf⟩ := Classical.axiomOfChoice hex
    refine ⟨(List.range len0).map f, by simp, ?_, fun j hj => ?_⟩
    · by_cases hp : 0 < len0
      · refine .inr (.inr ⟨by simpa using hp, ?_⟩)
        obtain ⟨b, off, spot⟩ := a
        have hspot : spot = none := by simpa [Addr.add] using World.cell?_spot (hf 0 hp).1.1
        subst hspot
        refine ⟨b, off, rfl, fun j hj => ?_⟩
        have hj' : j < len0 := by simpa using hj
        have e : ((List.range len0).map f).getD j rec0 = f j := by simp [List.getD, hj']
        rw [e]
        have hh := (hf j hj').1
        simp only [Go.WideShapes.add_plain, Nat.add_zero] at hh
        exact hh
      · obtain rfl : len0 = 0 := by omega
        exact .inr (.inl ⟨rfl, a, rfl⟩)
    · have hj' : j < len0 := by simpa using hj
      have e : ((List.range len0).map f).getD j rec0 = f j := by simp [List.getD, hj']
      rw [e]
      exact (hf j hj').2
end Go.Proofs.Qxb6001780a

namespace Go.Proofs.Qxb6001780a.fnSummarizeMatchesModel
open Go.ChangeShapes Go.WideShapes Go.ChangeAt Go.RowKit

theorem own : ownKnob Try.prog.godebug = none := by kernel_rfl
theorem laidOut : laidOutB Try.prog = true := by kernel_rfl

set_option maxRecDepth 100000 in
theorem lifted (os : Os) (started : os.Started) (H : Type) (enc : TypeId × Value → H) :
    ReturnsInHanded {} Try.checked os 3 .any (Rows.fnSummarizeMatchesModelSpec.pre6 enc Try.prog Try.f3 Rows.fnSummarizeMatchesModelRow.domain false) (Rows.fnSummarizeMatchesModelSpec.post enc Try.prog Try.f3 false true false false) := by
  refine returnsInHanded_of_change (C := Try.checked) own started (by kernel_rfl) Try.func3
    (ChangeSpec.witness6 (enc := enc) (C := Try.checked) false ⟨#[], #[.slice none 0 0], []⟩ 8 (by kernel_rfl) (by kernel_rfl) (by kernel_rfl) (by kernel_rfl)) ?_
  intro W base args ds gs before hval0 hW _ _
  have hval : ∀ (j : Nat) t v, Try.f3.params[j]? = some t → args[j]? = some v → Value.okWide Try.prog W .any base t v := hval0
  have hW' := hW
  obtain ⟨p, q, hA0, hV, rfl, _, _⟩ := hW
  have hA : DataW.TrodAll enc Try.prog W 0 (fun _ => true) true Try.f3.params.toList args.toList ds p := hA0
  rw [Try.params3] at hA hval
  obtain ⟨v0, vs0, d0, ds0, p0, q0, hargs, rfl, rfl, h0, r0⟩ := trodAll_cons hA
  obtain ⟨rfl, rfl, rfl⟩ := trodAll_nil r0
  obtain rfl : args = #[v0] := by cases args; simp_all
  obtain ⟨rfl, rfl⟩ := trodVars_none hV
  obtain ⟨a0, len0, cap0, rfl⟩ := okWide_slice Try.underlying22 (hval 0 22 v0 rfl rfl)
  have k0 := h0
  have lt0 : ∀ x ∈ p0, x.block < W.heap.size := by obtain ⟨m, hm⟩ := k0; exact DataW.trod_lt m _ _ _ hm
  obtain ⟨rs, rfl, hin, hsz⟩ : ∃ rs : List Rec, rs.length = len0 ∧ In3 W a0 cap0 rs ∧ ∀ j, j < rs.length → (rs.getD j rec0).err.size ≤ maxLen := by
    obtain ⟨fuel, hf⟩ := h0
    exact open_recs hf
  clear hA0 hval0
  refine (main_all rs a0 cap0 W hin hsz).mono fun e W' ⟨he, bel⟩ => ?_
  subst he
  exact ⟨_, rfl, _, _, _, [], _, [], hW', trodAll_mk1 (shut_bool Try.underlying4 _), (trodAll_cons_mk (Below.trod laidOut (by kernel_rfl) (of_decide_eq_true (by kernel_rfl)) k0 bel lt0) trodAll_mk0), rfl, bel.frame _, fun h => by cases h⟩

theorem over : Rows.fnSummarizeMatchesModelRow.holds Try.pinned (OpenSpec.ofChange Rows.fnSummarizeMatchesModelSpec) :=
  OpenClaim.holds_of_wide 3 Try.f3 rfl rfl rfl rfl rfl rfl rfl ⟨rfl, rfl, rfl, rfl, rfl⟩ rfl rfl rfl rfl rfl (by kernel_rfl) Try.func3 (by kernel_rfl)
    (of_decide_eq_true (by kernel_rfl)) (by unfold Func.isWrapper; first | (rw [if_pos (by decide +kernel)]; kernel_rfl) | (rw [if_neg (by decide +kernel)]; exact ⟨rfl, rfl⟩))
    (fun os started H enc _ => lifted os started H enc)

/-- THE STATEMENT. -/
theorem proved : Rows.FnSummarizeMatchesModelSaid := over
end Go.Proofs.Qxb6001780a.fnSummarizeMatchesModel

namespace Go.Proofs.Qxb6001780a
theorem sum_proved : Rows.FnSummarizeMatchesModelSaid := fnSummarizeMatchesModel.proved
end Go.Proofs.Qxb6001780a
