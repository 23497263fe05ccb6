/- The walk of ZZSummarize. -/
import Derived.Test.Qxb6001780aSumm
namespace Go.Proofs.Qxb6001780a
open Go Go.RowKit Go.Maps

/-- What ZZSummarize hands back. -/
def Sum (w w' : World) (os : List Rec) (gl : Nat) (p : Option Addr) (c : Nat) (ss : List (List UInt8)) : Prop :=
  Nums w' w.heap.size 37 gl os.length (srt (lats os)) ∧ w'.ownsRow w.heap.size 9 1 (.slice p ss.length c) ss.length (ss.map encStr) ∧ Reasons os ss ∧ Below w.heap.size w w'

theorem Sum.set {w w' : World} {os : List Rec} {gl : Nat} {p : Option Addr} {c : Nat} {ss : List (List UInt8)} (h : Sum w w' os gl p c ss) (h1 : w.heap.size ≠ gl) (h2 : (Value.slice p ss.length c).ownBlock ≠ some w.heap.size) (i : Nat) (u : Value) : Sum w (w'.setCell ⟨w.heap.size, i, none⟩ u) os gl p c ss :=
  ⟨nums_kept h.1 (Below.heap_setCell w' _ u _ (fun e => h1 e.symm)), h.2.1.kept (grownBy_setCell w' ⟨w.heap.size, i, none⟩ u) (.inr h2), h.2.2.1, h.2.2.2.setCell (Nat.le_refl _) u⟩

theorem slice_of {w : World} {B : Nat} {v : Value} {ss : List (List UInt8)} (h : w.ownsRow B 9 1 v ss.length (ss.map encStr)) : ∃ p vc, v = .slice p ss.length vc := by
  rcases h.2 with ⟨h1, h2⟩ | ⟨g', cap, cur, hv, _⟩
  · exact ⟨none, 0, by rw [h1]; simp_all⟩
  · exact ⟨_, _, hv⟩

set_option maxRecDepth 100000 in
set_option maxHeartbeats 1000000 in
theorem zz_all (os : List Rec) (a : Option Addr) (c : Nat) (w : World) (hr : Head3 w a os) (hn : os.length ≤ 4096) (hsz : ∀ j, j < os.length → (os.getD j rec0).err.size ≤ maxLen) :
    Calls Try.prog 9 #[.slice a os.length c] w fun e w' => ∃ gl p vc ss, e = .returned (.agg #[.int .i64 os.length, .int .i64 (succ os), .int .i64 (bsum os), .slice (some ⟨gl, 0, none⟩) os.length os.length, .slice p ss.length vc]) ∧ Sum w w' os gl p vc ss := by
  obtain ⟨z5, hz5⟩ : ∃ z5 : Array Value, z5 = #[.int .i64 0, .int .i64 0, .int .i64 0, .slice none 0 0, .slice none 0 0] := ⟨_, rfl⟩
  have hr2 : Head3 (w.alloc (.cells z5 29)) a os := hr.later ((Below.refl w.heap.size w).alloc (Nat.le_refl _) _)
  have hsa : (w.alloc (.cells z5 29)).heap.size = w.heap.size + 1 := by simp
  have hc := summ os a c _ hr2 hn hsz
  rw [hsa] at hc
  have hnew : (w.alloc (.cells z5 29)).heap[w.heap.size]? = some (.cells z5 29 (0, 0)) := heap_alloc_new w _
  have hback : ∀ w2, Below (w.heap.size + 1) (w.alloc (.cells z5 29)) w2 → (∀ i, i < 5 → (∃ v, w2.cell? ⟨w.heap.size, i, none⟩ = some v) ∧ w2.frozen? ⟨w.heap.size, i, none⟩ = false) ∧ Below w.heap.size w w2 := fun w2 hb => by
    have hh := (hb.block w.heap.size (by omega)).trans hnew
    refine ⟨fun i hi => ⟨?_, by simp [World.frozen?, hh]⟩, ((Below.refl w.heap.size w).alloc (Nat.le_refl _) _).trans (hb.mono (by omega))⟩
    have hsz5 : z5.size = 5 := by rw [hz5]; rfl
    exact ⟨z5[i]'(by omega), by simp [World.cell?, hh, Array.getElem?_eq_getElem (show i < z5.size by omega)]⟩
  clear hnew hr2 hsa
  subst hz5
  go_enter Try.func9, Try.ntmps9
  go_wp2_with (go_at_call 17; refine hc.mono ?_; rintro _ w2 ⟨gl, v, ss, rfl, hnum, hrow, hre, hb⟩; obtain ⟨hcl, hbl⟩ := hback w2 hb; obtain ⟨⟨x0, y00⟩, y01⟩ := hcl 0 (by omega); obtain ⟨⟨x1, y10⟩, y11⟩ := hcl 1 (by omega); obtain ⟨⟨x2, y20⟩, y21⟩ := hcl 2 (by omega); obtain ⟨⟨x3, y30⟩, y31⟩ := hcl 3 (by omega); obtain ⟨⟨x4, y40⟩, y41⟩ := hcl 4 (by omega); clear hcl; obtain ⟨p, vc, hv⟩ := slice_of hrow; subst hv)
  have n1 : w.heap.size ≠ gl := by have := (hnum.1.lt gl rfl).1; omega
  have n2 : (Value.slice p ss.length vc).ownBlock ≠ some w.heap.size := fun e => by have := (hrow.lt _ e).1; omega
  have hf : Sum w w2 os gl p vc ss := ⟨⟨owns_mono hnum.1 (by omega), hnum.2⟩, owns_mono hrow (by omega), hre, hbl⟩
  have hf5 := ((((hf.set n1 n2 0 (.int .i64 os.length)).set n1 n2 1 (.int .i64 (succ os))).set n1 n2 2 (.int .i64 (bsum os))).set n1 n2 3 (.slice (some ⟨gl, 0, none⟩) os.length os.length)).set n1 n2 4 (.slice p ss.length vc)
  exact bodyPost_ret (v := .agg #[.int .i64 os.length, .int .i64 (succ os), .int .i64 (bsum os), .slice (some ⟨gl, 0, none⟩) os.length os.length, .slice p ss.length vc]) (by simp [results, Try.results9, go_sem, y00, y10, y20, y30, y40]) rfl ⟨_, _, _, ss, rfl, hf5⟩
end Go.Proofs.Qxb6001780a
