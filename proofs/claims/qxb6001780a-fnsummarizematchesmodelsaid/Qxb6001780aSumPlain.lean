/- Plain: what summarize counts; the reasons, each once, ascending. -/
import Derived.Test.Qxb6001780aIns
import Derived.Maps.Own
import Derived.Maps.OwnSet
import Derived.Sort.KeysCollected
import Derived.Sort.OwnSortedInts
namespace Go.Proofs.Qxb6001780a
open Go Go.RowKit Go.Maps

/-- The reason's bytes. -/
def ebs (o : Rec) : List UInt8 := o.err.data.toList
/-- How many have no reason. -/
def succ (os : List Rec) : Nat := os.countP fun o => (ebs o).isEmpty
/-- The bytes, summed as int64. -/
def bsum (os : List Rec) : Int := os.foldl (fun s o => wrap64 (s + o.byt)) 0
/-- The reasons that are not empty, in order, repeats and all. -/
def errs (os : List Rec) : List (List UInt8) := (os.map fun o => ebs o).filter fun l => !l.isEmpty

theorem succ_take (os : List Rec) (k : Nat) (h : k < os.length) : succ (os.take (k + 1)) = succ (os.take k) + if (ebs (os.getD k rec0)).isEmpty then 1 else 0 := by
  rw [take_snoc os k h]
  simp only [succ, List.countP_append, List.countP_cons, List.countP_nil, Nat.zero_add]
theorem bsum_take (os : List Rec) (k : Nat) (h : k < os.length) : bsum (os.take (k + 1)) = wrap64 (bsum (os.take k) + (os.getD k rec0).byt) := by
  rw [take_snoc os k h]
  simp only [bsum, List.foldl_append, List.foldl_cons, List.foldl_nil]
theorem errs_take (os : List Rec) (k : Nat) (h : k < os.length) : errs (os.take (k + 1)) = errs (os.take k) ++ if (ebs (os.getD k rec0)).isEmpty then [] else [ebs (os.getD k rec0)] := by
  rw [take_snoc os k h]
  simp only [errs, List.map_append, List.filter_append, List.map_cons, List.map_nil]
  generalize ebs (os.getD k rec0) = l
  cases l <;> simp

theorem succ_le (os : List Rec) : succ os ≤ os.length := List.countP_le_length
theorem succ_errs (os : List Rec) : succ os + (errs os).length = os.length := by
  induction os with
  | nil => rfl
  | cons o os ih =>
    simp only [succ, errs, List.countP_cons, List.map_cons, List.filter_cons, List.length_cons] at ih ⊢
    generalize ebs o = l
    cases l <;> simp <;> omega

theorem errs_mem (os : List Rec) (x : List UInt8) : x ∈ errs os ↔ x ≠ [] ∧ ∃ j, j < os.length ∧ ebs (os.getD j rec0) = x := by
  unfold errs
  rw [List.mem_filter, List.mem_map]
  constructor
  · rintro ⟨⟨o, ho, rfl⟩, h2⟩
    obtain ⟨j, hj, rfl⟩ := List.getElem_of_mem ho
    refine ⟨by simpa using h2, j, hj, ?_⟩
    simp [List.getD, List.getElem?_eq_getElem hj]
  · rintro ⟨h1, j, hj, rfl⟩
    refine ⟨⟨os.getD j rec0, ?_, rfl⟩, by simpa using h1⟩
    rw [show os.getD j rec0 = os[j] by simp [List.getD, List.getElem?_eq_getElem hj]]
    exact List.getElem_mem hj

/-- The same list, each once. -/
theorem dedup_ex : ∀ L : List (List UInt8), ∃ E : List (List UInt8), E.Nodup ∧ (∀ x, x ∈ E ↔ x ∈ L) ∧ E.length ≤ L.length
  | [] => ⟨[], List.nodup_nil, fun _ => Iff.rfl, Nat.le_refl _⟩
  | a :: L => by
    obtain ⟨E, h1, h2, h3⟩ := dedup_ex L
    by_cases h : a ∈ E
    · exact ⟨E, h1, fun x => by rw [h2 x, List.mem_cons]; exact ⟨.inr, fun hx => hx.elim (fun e => by rw [e]; exact (h2 a).1 h) id⟩, by simp; omega⟩
    · exact ⟨a :: E, List.nodup_cons.2 ⟨h, h1⟩, fun x => by rw [List.mem_cons, List.mem_cons, h2 x], by simp; omega⟩

/-- What the map of reasons reads as. -/
def dmap (L : List (List UInt8)) : DataW Unit := setOf (.lit (.bool true)) (L.map Lit.string)

theorem dmap_snoc (L : List (List UInt8)) (x : List UInt8) : dmap (L ++ [x]) = (dmap L).put (.string x) (.lit (.bool true)) := by
  unfold dmap
  rw [List.map_append, List.map_cons, List.map_nil, setOf_snoc]

theorem dmap_has (L : List (List UInt8)) (x : List UInt8) : has (dmap L) (.string x) = true ↔ x ∈ L := by
  unfold dmap
  rw [has_setOf _ _ _ (by intro y hy; obtain ⟨z, _, rfl⟩ := List.mem_map.1 hy; trivial), List.any_eq_true]
  constructor
  · rintro ⟨y, hy, h⟩
    obtain ⟨z, hz, rfl⟩ := List.mem_map.1 hy
    simp [Lit.sameKey] at h
    rw [← h]; exact hz
  · intro h
    exact ⟨.string x, List.mem_map.2 ⟨x, h, rfl⟩, by simp [Lit.sameKey]⟩

/-- The reasons as they are handed back: each once, ascending, no other. -/
def Reasons (os : List Rec) (ss : List (List UInt8)) : Prop :=
  ss.Pairwise (· < ·) ∧ (∀ x, x ∈ ss ↔ x ∈ errs os) ∧ ss.length ≤ (errs os).length

theorem reasons_of {os : List Rec} {w : World} {P : Program} {k b n : Nat} {R : Value → Option (DataW Unit × List MemPlace)} {ss : List (List UInt8)} (hown : w.ownsMap P k R b n (dmap (errs os))) (K : Keyed P k) (hk : P.underlying k = some .string)
    (hp : ss.Perm (strKeys (dmap (errs os)))) : Reasons os (ss.mergeSort fun x y => decide (x ≤ y)) := by
  obtain ⟨E, h1, h2, h3⟩ := dedup_ex (errs os)
  have hc : Collected (dmap (errs os)) (fun _ => false) E := ⟨h1, fun x => by rw [dmap_has, h2 x]; simp⟩
  have hpe := hc.perm hown K hk (fun _ => rfl)
  have hpE : (ss.mergeSort fun x y => decide (x ≤ y)).Perm E := ((List.mergeSort_perm _ _).trans hp).trans hpe.symm
  have hnd : (ss.mergeSort fun x y => decide (x ≤ y)).Nodup := hpE.nodup_iff.2 h1
  have hsorted := List.pairwise_mergeSort (le := fun x y : List UInt8 => decide (x ≤ y)) (by intro a b c h1 h2; simp only [decide_eq_true_eq] at *; exact List.le_trans h1 h2) (by intro a b; simp only [Bool.or_eq_true, decide_eq_true_eq]; exact List.le_total a b) ss
  refine ⟨?_, fun x => by rw [hpE.mem_iff, h2 x], by rw [hpE.length_eq]; exact h3⟩
  have hne : (ss.mergeSort fun x y => decide (x ≤ y)).Pairwise (fun a b => a ≠ b) := hnd
  rw [List.pairwise_iff_getElem] at hsorted hne ⊢
  intro i j hi hj hij
  have ha := hsorted i j hi hj hij
  have hb := hne i j hi hj hij
  generalize (ss.mergeSort fun x y => decide (x ≤ y))[i] = a at *
  generalize (ss.mergeSort fun x y => decide (x ≤ y))[j] = b at *
  simp only [decide_eq_true_eq] at ha
  rcases Classical.em (a < b) with h | h
  · exact h
  · exact absurd (List.le_antisymm ha (List.not_lt.1 h)) hb
end Go.Proofs.Qxb6001780a
