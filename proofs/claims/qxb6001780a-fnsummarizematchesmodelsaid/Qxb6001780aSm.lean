/- The memory of summarize inside its loop: its result's cell, the latencies' row, the summary's own block, the map of reasons. -/
import Derived.Test.Qxb6001780aSumPlain
namespace Go.Proofs.Qxb6001780a
open Go Go.RowKit Go.Maps

structure Sm (w wr : World) (N Br Bm n k : Nat) (L : List (List UInt8)) (zs : List Int) (s b : Int) (ev : Value) : Prop where
  nums : Nums wr N 37 (N + 1) n zs
  cells : wr.heap[Br]? = some (.cells #[.int .i64 n, .int .i64 s, .int .i64 b, .slice (some ⟨N + 1, 0, none⟩) n n, ev] 29 (0, 0))
  res : ∃ xs : Array Value, wr.heap[N]? = some (.cells xs 29 (0, 0)) ∧ xs.size = 5
  map : wr.ownsMap Try.prog 9 (plainElem Try.prog 4) Bm k (dmap L)
  below : Below N w wr
  lt1 : N + 1 < Br
  lt2 : Br < Bm
  lt3 : Bm < wr.heap.size

theorem grownBy_setCell (w : World) (a : Addr) (u : Value) : w.grownBy (w.setCell a u) (some a.block) :=
  ⟨rfl, rfl, rfl, by simp [World.setCell], fun k _ hk => Below.heap_setCell w a u k (fun e => hk (by rw [e]))⟩

theorem ownsMap_kept {w w' : World} {P : Program} {k b n : Nat} {R : Value → Option (DataW Unit × List MemPlace)} {D : DataW Unit} (h : w.ownsMap P k R b n D) (hb : w'.heap[b]? = w.heap[b]?) : w'.ownsMap P k R b n D := by
  obtain ⟨es, clock, h1, h2⟩ := h
  exact ⟨es, clock, hb.trans h1, h2⟩

theorem nums_kept {w w' : World} {B e g n : Nat} {zs : List Int} (h : Nums w B e g n zs) (hb : w'.heap[g]? = w.heap[g]?) : Nums w' B e g n zs := by
  refine ⟨⟨h.1.1, ?_⟩, h.2⟩
  rcases h.1.2 with h2 | ⟨g', cap, cur, hv, hg, hh, r⟩
  · exact .inl h2
  · cases hv
    exact .inr ⟨g, n, cur, rfl, hg, hb.trans hh, r⟩

variable {w wr w2 : World} {N Br Bm n k : Nat} {L : List (List UInt8)} {zs : List Int} {s b : Int} {ev : Value}

theorem Sm.cellR (h : Sm w wr N Br Bm n k L zs s b ev) (i : Nat) (v : Value) (hv : (#[Value.int .i64 n, .int .i64 s, .int .i64 b, .slice (some ⟨N + 1, 0, none⟩) n n, ev])[i]? = some v) :
    wr.cell? ⟨Br, i, none⟩ = some v ∧ wr.frozen? ⟨Br, i, none⟩ = false := by
  refine ⟨?_, by simp [World.frozen?, h.cells]⟩
  simp only [World.cell?, h.cells]
  simpa using hv

theorem Sm.cellN (h : Sm w wr N Br Bm n k L zs s b ev) (i : Nat) (hi : i < 5) : (∃ v, wr.cell? ⟨N, i, none⟩ = some v) ∧ wr.frozen? ⟨N, i, none⟩ = false := by
  obtain ⟨xs, h1, h2⟩ := h.res
  refine ⟨⟨xs[i]'(by omega), ?_⟩, by simp [World.frozen?, h1]⟩
  simp [World.cell?, h1, Array.getElem?_eq_getElem (show i < xs.size by omega)]

theorem Sm.numsLt (h : Sm w wr N Br Bm n k L zs s b ev) : N + 1 < wr.heap.size := by
  have := h.lt1; have := h.lt2; have := h.lt3; omega

/-- A turn of one row among the four, or of none. -/
theorem Sm.turn (h : Sm w wr N Br Bm n k L zs s b ev) {row : Option Nat} (hg : wr.grownBy w2 row) (hN : N ≤ wr.heap.size) (hr : ∀ k, row = some k → N ≤ k) :
    (some (N + 1) ≠ row → Nums w2 N 37 (N + 1) n zs) ∧ (some Br ≠ row → w2.heap[Br]? = wr.heap[Br]?) ∧ (some N ≠ row → w2.heap[N]? = wr.heap[N]?) ∧
    (some Bm ≠ row → w2.ownsMap Try.prog 9 (plainElem Try.prog 4) Bm k (dmap L)) ∧ Below N w w2 ∧ Bm < w2.heap.size := by
  have l1 := h.lt1; have l2 := h.lt2; have l3 := h.lt3
  have hs := hg.size
  exact ⟨fun e => nums_kept h.nums (hg.block _ (by omega) e), fun e => hg.block _ (by omega) e, fun e => hg.block _ (by omega) e, fun e => ownsMap_kept h.map (hg.block _ (by omega) e), h.below.grown hg hN hr, by omega⟩

theorem Sm.alloc (h : Sm w wr N Br Bm n k L zs s b ev) (hN : N ≤ wr.heap.size) (o : Obj) : Sm w (wr.alloc o) N Br Bm n k L zs s b ev := by
  obtain ⟨t1, t2, t3, t4, t5, t6⟩ := h.turn (World.grownBy_alloc wr o none) hN (fun k hk => by cases hk)
  obtain ⟨xs, x1, x2⟩ := h.res
  exact ⟨t1 (by simp), (t2 (by simp)).trans h.cells, ⟨xs, (t3 (by simp)).trans x1, x2⟩, t4 (by simp), t5, h.lt1, h.lt2, t6⟩

theorem Sm.setLat (h : Sm w wr N Br Bm n k L zs s b ev) (hN : N ≤ wr.heap.size) (j : Nat) (x : Int) : Sm w (wr.setCell ⟨N + 1, j, none⟩ (.int .i64 x)) N Br Bm n k L (zs.set j x) s b ev := by
  have l1 := h.lt1; have l2 := h.lt2; have l3 := h.lt3
  obtain ⟨_, t2, t3, t4, t5, t6⟩ := h.turn (grownBy_setCell wr ⟨N + 1, j, none⟩ (.int .i64 x)) hN (fun k hk => by cases hk; show N ≤ N + 1; omega)
  obtain ⟨xs, x1, x2⟩ := h.res
  exact ⟨(h.nums.set (by omega) h.below j x).1, (t2 (by simp; omega)).trans h.cells, ⟨xs, (t3 (by simp)).trans x1, x2⟩, t4 (by simp; omega), t5, h.lt1, h.lt2, t6⟩

theorem heap_set_cells (w : World) (g i : Nat) (xs : Array Value) (t : TypeId) (u : Value) (h : w.heap[g]? = some (.cells xs t (0, 0))) : (w.setCell ⟨g, i, none⟩ u).heap[g]? = some (.cells (xs.setIfInBounds i u) t (0, 0)) := heap_setCell_same w g i xs t u h

theorem Sm.setBytes (h : Sm w wr N Br Bm n k L zs s b ev) (hN : N ≤ wr.heap.size) (x : Int) : Sm w (wr.setCell ⟨Br, 2, none⟩ (.int .i64 x)) N Br Bm n k L zs s x ev := by
  have l1 := h.lt1; have l2 := h.lt2; have l3 := h.lt3
  obtain ⟨t1, _, t3, t4, t5, t6⟩ := h.turn (grownBy_setCell wr ⟨Br, 2, none⟩ (.int .i64 x)) hN (fun k hk => by cases hk; show N ≤ Br; omega)
  obtain ⟨xs, x1, x2⟩ := h.res
  exact ⟨t1 (by simp; omega), heap_set_cells wr Br 2 _ 29 _ h.cells, ⟨xs, (t3 (by simp; omega)).trans x1, x2⟩, t4 (by simp; omega), t5, h.lt1, h.lt2, t6⟩

theorem Sm.setSucc (h : Sm w wr N Br Bm n k L zs s b ev) (hN : N ≤ wr.heap.size) (x : Int) : Sm w (wr.setCell ⟨Br, 1, none⟩ (.int .i64 x)) N Br Bm n k L zs x b ev := by
  have l1 := h.lt1; have l2 := h.lt2; have l3 := h.lt3
  obtain ⟨t1, _, t3, t4, t5, t6⟩ := h.turn (grownBy_setCell wr ⟨Br, 1, none⟩ (.int .i64 x)) hN (fun k hk => by cases hk; show N ≤ Br; omega)
  obtain ⟨xs, x1, x2⟩ := h.res
  exact ⟨t1 (by simp; omega), heap_set_cells wr Br 1 _ 29 _ h.cells, ⟨xs, (t3 (by simp; omega)).trans x1, x2⟩, t4 (by simp; omega), t5, h.lt1, h.lt2, t6⟩

theorem Sm.setMap (h : Sm w wr N Br Bm n k L zs s b ev) (hN : N ≤ wr.heap.size) {x : List UInt8} (hm : w2.ownsMap Try.prog 9 (plainElem Try.prog 4) Bm (k + 1) ((dmap L).put (.string x) (.lit (.bool true)))) (hg : wr.grownBy w2 (some Bm)) :
    Sm w w2 N Br Bm n (k + 1) (L ++ [x]) zs s b ev := by
  have l1 := h.lt1; have l2 := h.lt2; have l3 := h.lt3
  obtain ⟨t1, t2, t3, _, t5, t6⟩ := h.turn hg hN (fun k hk => by cases hk; omega)
  obtain ⟨xs, x1, x2⟩ := h.res
  exact ⟨t1 (by simp; omega), (t2 (by simp; omega)).trans h.cells, ⟨xs, (t3 (by simp; omega)).trans x1, x2⟩, by rw [dmap_snoc]; exact hm, t5, h.lt1, h.lt2, t6⟩

theorem Sm.more (h : Sm w wr N Br Bm n k L zs s b ev) : Sm w wr N Br Bm n (k + 1) L zs s b ev :=
  ⟨h.nums, h.cells, h.res, h.map.mono (by omega), h.below, h.lt1, h.lt2, h.lt3⟩

theorem Sm.sorted (h : Sm w wr N Br Bm n k L zs s b ev) (hN : N ≤ wr.heap.size) {ts : List Int} (hm : Nums w2 N 37 (N + 1) n ts) (hg : wr.grownBy w2 (some (N + 1))) : Sm w w2 N Br Bm n k L ts s b ev := by
  have l1 := h.lt1; have l2 := h.lt2; have l3 := h.lt3
  obtain ⟨_, t2, t3, t4, t5, t6⟩ := h.turn hg hN (fun k hk => by cases hk; omega)
  obtain ⟨xs, x1, x2⟩ := h.res
  exact ⟨hm, (t2 (by simp; omega)).trans h.cells, ⟨xs, (t3 (by simp)).trans x1, x2⟩, t4 (by simp; omega), t5, h.lt1, h.lt2, t6⟩
end Go.Proofs.Qxb6001780a
