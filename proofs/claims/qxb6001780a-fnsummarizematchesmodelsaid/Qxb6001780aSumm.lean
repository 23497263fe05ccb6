/- The walk of summarize. -/
import Derived.Test.Qxb6001780aSm
import Derived.Test.Qxb6001780aIter
namespace Go.Proofs.Qxb6001780a
open Go Go.RowKit Go.Maps
theorem info37 : (Try.prog.info? 37).map (fun i => (i.zero, i.size, i.bytes)) = some (some (.int .i64 0), 1, 8) := by kernel_rfl
theorem law9 : Keyed Try.prog 9 := string_keyed Try.underlying9

theorem sm_start {w w1 : World} {n : Nat} {z5 : Array Value} (hz : z5.size = 5)
    (hown : w1.ownsRow w.heap.size 37 1 (.slice (some ⟨(w.alloc (.cells z5 29)).heap.size, 0, none⟩) n n) n (madeCells (Value.int .i64 0).cells (n * 1)).toList) (hgr : (w.alloc (.cells z5 29)).grownBy w1 none) :
    Sm w ((w1.alloc (.cells #[.int .i64 n, .int .i64 0, .int .i64 0, .slice (some ⟨w.heap.size + 1, 0, none⟩) n n, .slice none 0 0] 29)).alloc (.map #[] 0)) w.heap.size w1.heap.size (w1.heap.size + 1) n 0 [] (List.replicate n 0) 0 0 (.slice none 0 0) := by
  have hnum := Nums.made hown
  have hsz : (w.alloc (.cells z5 29)).heap.size = w.heap.size + 1 := by simp
  rw [hsz] at hnum
  have hs1 := hgr.size
  rw [hsz] at hs1
  have hlt : w.heap.size + 1 < w1.heap.size := (hnum.1.lt _ rfl).2
  have hres : w1.heap[w.heap.size]? = some (.cells z5 29 (0, 0)) := by
    rw [hgr.block w.heap.size (by omega) (by simp)]
    exact heap_alloc_new w _
  have k1 : ∀ (o1 o2 : Obj) (i : Nat), i < w1.heap.size → ((w1.alloc o1).alloc o2).heap[i]? = w1.heap[i]? := fun o1 o2 i hi => by
    rw [Below.heap_alloc _ _ _ (by simp; omega), Below.heap_alloc _ _ _ hi]
  refine ⟨nums_kept hnum (k1 _ _ _ hlt), ?_, ⟨z5, (k1 _ _ _ (by omega)).trans hres, hz⟩, ?_, ?_, hlt, by omega, by simp⟩
  · rw [Below.heap_alloc _ _ _ (by simp)]
    exact heap_alloc_new w1 _
  · have := World.ownsMap_made (H := Unit) (w1.alloc (.cells #[.int .i64 n, .int .i64 0, .int .i64 0, .slice (some ⟨w.heap.size + 1, 0, none⟩) n n, .slice none 0 0] 29)) Try.prog 9 (plainElem Try.prog 4)
    simpa [dmap, setOf] using this
  · exact (((((Below.refl _ w).alloc (Nat.le_refl _) _).grown hgr (by simp) (fun k hk => by cases hk)).alloc (by omega) _).alloc (by simp; omega) _)

theorem lat_step {os : List Rec} {zs : List Int} {k : Nat} {r : Rec} (h : zs.take k = lats (os.take k)) (hr : r = os.getD k rec0) (hlt : k < os.length) (hl : Hid (zs.length = os.length)) : Hid ((zs.set k r.lat).take (k + 1) = lats (os.take (k + 1))) := by
  unfold Hid
  have hl2 := hl.out
  rw [lats_take os k hlt, ← h, ← hr, List.take_add_one, List.take_set_of_le (Nat.le_refl _), List.getElem?_set]
  simp [show k < zs.length by omega]

/-- slices.Sort on an own row of durations. -/
theorem sort19 {w : World} {B g n : Nat} {zs : List Int} (h : Nums w B 37 g n zs) (hB : B ≤ g) (hn : n ≤ 4096) :
    Calls Try.prog 19 #[.slice (some ⟨g, 0, none⟩) n n] w fun e w' => e = .returned (.tuple #[]) ∧ Nums w' B 37 g n (srt zs) ∧ w.grownBy w' (some g) := by
  obtain ⟨h1, rfl⟩ := h
  have hlt := (h1.lt _ rfl).2
  rcases h1.2 with ⟨h2, _⟩ | ⟨g', cap, cur, hv, hg, hh, r1, r2, r3, r4⟩
  · cases h2
  · cases hv
    refine (Try.slices_Sort_dur g 0 zs.length zs w (holds_of_blockI hh (by rw [← r4, Nat.mul_one])) hlt (by omega)).mono ?_
    rintro e w' ⟨rfl, k, os, rfl⟩
    exact ⟨rfl, ⟨ownsRow_sortedI (srt_length zs) hB hh r1 r2 r3, srt_length zs⟩, grownBy_sortedI _⟩

theorem Sm.far {w wr w2 : World} {N Br Bm n k : Nat} {L : List (List UInt8)} {zs : List Int} {s b : Int} {ev : Value} (h : Sm w wr N Br Bm n k L zs s b ev) {K : Nat} (hb : Below K wr w2) (hK : Bm < K) : Sm w w2 N Br Bm n k L zs s b ev := by
  have l1 := h.lt1; have l2 := h.lt2; have l3 := h.lt3
  obtain ⟨xs, x1, x2⟩ := h.res
  have := hb.size
  exact ⟨nums_kept h.nums (hb.block _ (by omega)), (hb.block _ (by omega)).trans h.cells, ⟨xs, (hb.block _ (by omega)).trans x1, x2⟩, ownsMap_kept h.map (hb.block _ (by omega)), h.below.trans (hb.mono (by omega)), l1, l2, by omega⟩

theorem Sm.setErr {w wr : World} {N Br Bm n k : Nat} {L : List (List UInt8)} {zs : List Int} {s b : Int} {ev : Value} (h : Sm w wr N Br Bm n k L zs s b ev) (hN : N ≤ wr.heap.size) (x : Value) : Sm w (wr.setCell ⟨Br, 4, none⟩ x) N Br Bm n k L zs s b x := by
  have l1 := h.lt1; have l2 := h.lt2; have l3 := h.lt3
  obtain ⟨t1, _, t3, t4, t5, t6⟩ := h.turn (grownBy_setCell wr ⟨Br, 4, none⟩ x) hN (fun k hk => by cases hk; show N ≤ Br; omega)
  obtain ⟨xs, x1, x2⟩ := h.res
  exact ⟨t1 (by simp; omega), heap_set_cells wr Br 4 _ 29 _ h.cells, ⟨xs, (t3 (by simp; omega)).trans x1, x2⟩, t4 (by simp; omega), t5, h.lt1, h.lt2, t6⟩

/-- slices.Sorted(maps.Keys(reasons)). -/
theorem keys20 {w3 : World} {os : List Rec} {Bm k : Nat} (hown : w3.ownsMap Try.prog 9 (plainElem Try.prog 4) Bm k (dmap (errs os))) (hk : k ≤ 4096) :
    Calls Try.prog 20 #[.func (.func 26) #[] #[.pointer (some ⟨w3.heap.size, 0, none⟩)]] (w3.alloc (.cells #[.map (some Bm)] 44)) fun e w' => ∃ (p : Option Addr) (c : Nat) (ss : List (List UInt8)), e = .returned (.slice p ss.length c) ∧
      Reasons os ss ∧ w'.ownsRow (w3.heap.size + 1) 9 1 (.slice p ss.length c) ss.length (ss.map encStr) ∧ Below (w3.heap.size + 1) (w3.alloc (.cells #[.map (some Bm)] 44)) w' := by
  have hsz := hown.size_le
  refine (callsIn_wide.1 (Try.slices_Sorted_keys_20_21 Bm k (dmap (errs os)) _ w3 hown (by unfold maxLen; omega) (by omega))).mono ?_
  rintro e w' ⟨v, ss, rfl, hp, hrow, _, hb⟩
  have hre := reasons_of hown law9 Try.underlying9 hp
  have hsa : (w3.alloc (.cells #[.map (some Bm)] 44)).heap.size = w3.heap.size + 1 := by simp
  rw [hsa] at hrow hb
  obtain ⟨ts, hts⟩ : ∃ ts, ts = ss.mergeSort fun x y => decide (x ≤ y) := ⟨_, rfl⟩
  have hl : ss.length = ts.length := by rw [hts, List.length_mergeSort]
  rw [← hts] at hre hrow
  rw [hl] at hrow
  obtain ⟨p, c, rfl⟩ : ∃ p c, v = .slice p ts.length c := by
    rcases hrow.2 with ⟨h1, h2⟩ | ⟨g', cap, cur, hv, _⟩
    · exact ⟨none, 0, by rw [h1]; simp_all⟩
    · exact ⟨_, _, hv⟩
  exact ⟨p, c, ts, rfl, hre, hrow, hb⟩

theorem owns_mono {w : World} {B B' : Nat} {e : TypeId} {sz : Nat} {v : Value} {n : Nat} {xs : List Value} (h : w.ownsRow B e sz v n xs) (hb : B' ≤ B) : w.ownsRow B' e sz v n xs := by
  refine ⟨h.1, ?_⟩
  rcases h.2 with h2 | ⟨g, cap, cur, hv, hg, r⟩
  · exact .inl h2
  · exact .inr ⟨g, cap, cur, hv, Nat.le_trans hb hg, r⟩

def Fin (w wr : World) (N n : Nat) (zs : List Int) (v : Value) (m : Nat) (xs : List Value) : Prop := Nums wr N 37 (N + 1) n zs ∧ wr.ownsRow N 9 1 v m xs ∧ Below N w wr
theorem Fin.set {w wr : World} {N n : Nat} {zs : List Int} {v : Value} {m : Nat} {xs : List Value} (h : Fin w wr N n zs v m xs) {g : Nat} (hg : N ≤ g) (h1 : g ≠ N + 1) (h2 : v.ownBlock ≠ some g) (i : Nat) (u : Value) : Fin w (wr.setCell ⟨g, i, none⟩ u) N n zs v m xs :=
  ⟨nums_kept h.1 (Below.heap_setCell wr _ u _ (fun e => h1 (by rw [e]))), h.2.1.kept (grownBy_setCell wr ⟨g, i, none⟩ u) (.inr h2), h.2.2.setCell hg u⟩

set_option maxRecDepth 100000 in
set_option maxHeartbeats 1000000 in
theorem summ (os : List Rec) (a : Option Addr) (c : Nat) (w : World) (hr : Head3 w a os) (hn : os.length ≤ 4096) (hsz : ∀ j, j < os.length → (os.getD j rec0).err.size ≤ maxLen) :
    Calls Try.prog 17 #[.slice a os.length c] w fun e w' => ∃ gl v ss, e = .returned (.agg #[.int .i64 os.length, .int .i64 (succ os), .int .i64 (bsum os), .slice (some ⟨gl, 0, none⟩) os.length os.length, v]) ∧
      Nums w' w.heap.size 37 gl os.length (srt (lats os)) ∧ w'.ownsRow w.heap.size 9 1 v ss.length (ss.map encStr) ∧ Reasons os ss ∧ Below w.heap.size w w' := by
  obtain ⟨i0, hi, hi0, hi1, hi2⟩ := info_parts info37
  have hmm := @run_makeMap Try.prog
  have HR : Hid (Head3 w a os) := hr
  have HZ : Hid (∀ j, j < os.length → (os.getD j rec0).err.size ≤ maxLen) := hsz
  clear hr hsz
  go_enter Try.func17, Try.ntmps17
  go_wp2_with (refine wpList_make_full _ rfl _ _ 26 rfl w.heap.size 37 i0 (.int .i64 0) 1 Try.underlying26 hi hi0 hi1 .i64 .i64 _ _ os.length rfl rfl rfl rfl (by rw [hi2]; omega) (by unfold maxLen; omega) (by simp) ?_; intro w1 hown hgr)
  have hst := sm_start rfl hown hgr
  clear hown hgr
  go_loopw [16] (fun i wr => ∃ (k : Nat) (zs : List Int), k ≤ os.length ∧ i = .int .i64 k ∧ Hid (zs.take k = lats (os.take k)) ∧ Sm w wr w.heap.size w1.heap.size (w1.heap.size + 1) os.length k (errs (os.take k)) zs (succ (os.take k)) (bsum (os.take k)) (.slice none 0 0)) (fun i _ => os.length - (intOf i).toNat)
  case atStart => exact ⟨0, _, Nat.zero_le _, rfl, by unfold Hid; simp [lats], hst⟩
  case round =>
    clear hst
    obtain ⟨k, zs, hk, rfl, HT, hsm⟩ := hrel
    have l1 := hsm.lt1
    have l3 := hsm.lt3
    have hN := hsm.below.size
    have l2 : w1.heap.size < wr.heap.size := by omega
    have l4 : w.heap.size + 1 < wr.heap.size := by omega
    have n1 : w.heap.size + 1 ≠ w1.heap.size := by omega
    have n2 : w1.heap.size ≠ w.heap.size + 1 := by omega
    by_cases hlt : k < os.length
    · obtain ⟨g, hae, hg, hrow⟩ : ∃ g, a = some ⟨g, 0, none⟩ ∧ g < w.heap.size ∧ RowAt w g 0 os := by
        rcases HR.out with h | h
        · omega
        · exact h
      subst hae
      have l5 : g < wr.heap.size := by omega
      have n3 : g ≠ w.heap.size + 1 := by omega
      have n4 : g ≠ w1.heap.size := by omega
      have n5 : w.heap.size + 1 ≠ g := by omega
      have n6 : w1.heap.size ≠ g := by omega
      obtain ⟨r, hrr⟩ : ∃ r, r = os.getD k rec0 := ⟨_, rfl⟩
      obtain ⟨c0, c1, c2⟩ := (hrow.later hsm.below hg) k hlt
      rw [← hrr, Nat.zero_add] at c0 c1 c2
      have q0 := hsm.cellR 0 _ rfl
      have q1 := hsm.cellR 1 _ rfl
      have q2 := hsm.cellR 2 _ rfl
      have q3 := hsm.cellR 3 _ rfl
      have p0 := hsm.nums.cell k hlt
      have p1 := hsm.nums.frozen k
      obtain ⟨q10, q11⟩ := q1
      obtain ⟨q20, q21⟩ := q2
      obtain ⟨q30, q31⟩ := q3
      have s1 := hsm.setLat hN k r.lat
      have s2 := s1.setBytes (by simpa using hN) (wrap64 (bsum (os.take k) + r.byt))
      have HS2 : Hid (Sm w ((wr.setCell ⟨w.heap.size + 1, k, none⟩ (.int .i64 r.lat)).setCell ⟨w1.heap.size, 2, none⟩ (.int .i64 (wrap64 (bsum (os.take k) + r.byt)))) w.heap.size w1.heap.size (w1.heap.size + 1) os.length k (errs (os.take k)) (zs.set k r.lat) (succ (os.take k)) (wrap64 (bsum (os.take k) + r.byt)) (.slice none 0 0)) := s2
      have HL : Hid (zs.length = os.length) := hsm.nums.2
      have hsu := succ_le (os.take k)
      have hsl : (os.take k).length ≤ k := List.length_take_le _ _
      have HRR : Hid (r = os.getD k rec0) := hrr
      clear s1 s2 hrow hrr q0 hsm
      have hes : r.err.size ≤ maxLen := by rw [HRR.out]; exact HZ.out k hlt
      obtain ⟨bs, hbs⟩ : ∃ bs, bsum (os.take k) = bs := ⟨_, rfl⟩
      obtain ⟨sc, hsc⟩ : ∃ sc, succ (os.take k) = sc := ⟨_, rfl⟩
      obtain ⟨er, her⟩ : ∃ er, r.err = er := ⟨_, rfl⟩
      have HB : Hid (bsum (os.take k) = bs) := hbs
      have HC : Hid (succ (os.take k) = sc) := hsc
      have HE : Hid (ebs r = er.data.toList) := by unfold ebs Hid; rw [her]
      rw [hbs, hsc] at HS2 q10 q20 q30
      rw [hsc] at hsu
      rw [her] at c2 hes
      clear hbs hsc her
      by_cases he : er.toList.isEmpty = true
      · go_wp2_with (at_mapUpdate; fail)
        refine ⟨⟨k + 1, zs.set k r.lat, hlt, by simp, lat_step HT.out HRR.out hlt HL, ?_⟩, by simp [intOf]; omega⟩
        have s3 := ((HS2.out.setSucc (by simpa using hN) ((sc : Int) + 1)).alloc (by simpa using hN) (.cells #[.int .i64 r.lat, .int .i64 r.byt, .string er] 42)).more
        rw [errs_take os k hlt, succ_take os k hlt, bsum_take os k hlt, HB.out, HC.out, ← HRR.out, HE.out, ← Lib.toList_data, he]
        simpa using s3
      · have he' : er.toList.isEmpty = false := by simpa using he
        clear he
        have hm0 := (HS2.out.alloc (by simpa using hN) (.cells #[.int .i64 r.lat, .int .i64 r.byt, .string er] 42)).map
        have HM : Hid (World.ownsMap (((wr.setCell ⟨w.heap.size + 1, k, none⟩ (.int .i64 r.lat)).setCell ⟨w1.heap.size, 2, none⟩ (.int .i64 (wrap64 (bs + r.byt)))).alloc (.cells #[.int .i64 r.lat, .int .i64 r.byt, .string er] 42)) Try.prog 9 (plainElem Try.prog 4) (w1.heap.size + 1) k (dmap (errs (os.take k)))) := hm0
        clear hm0
        go_wp2_with (at_mapUpdate; refine wpList_mapUpdate_own _ rfl _ _ _ 44 rfl 9 4 law9 Try.underlying44 _ (w1.heap.size + 1) k _ rfl HM.out (by unfold maxLen; omega) _ _ _ rfl rfl (WideMaps.keyOf_string_mk Try.underlying9 hes) _ [] (plainElem_bool Try.underlying4 true) ?_; intro w2 hm hg2)
        have s3 := (HS2.out.alloc (by simpa using hN) (.cells #[.int .i64 r.lat, .int .i64 r.byt, .string er] 42)).setMap (by simp; omega) hm hg2
        refine ⟨⟨k + 1, zs.set k r.lat, hlt, by simp, lat_step HT.out HRR.out hlt HL, ?_⟩, by simp [intOf]; omega⟩
        rw [errs_take os k hlt, succ_take os k hlt, bsum_take os k hlt, HB.out, HC.out, ← HRR.out, HE.out, ← Lib.toList_data, he']
        simpa [Lib.toList_data] using s3
    · have hke : k = os.length := by omega
      subst hke
      simp only [List.take_length] at hsm HT
      have HTT : Hid (zs.take os.length = lats os) := HT
      have hzl := hsm.nums.2
      have hzs : zs = lats os := by rw [← HT.out, List.take_of_length_le (by omega)]
      subst hzs
      have q3 := hsm.cellR 3 _ rfl
      obtain ⟨q30, q31⟩ := q3
      have HSM : Hid (Sm w wr w.heap.size w1.heap.size (w1.heap.size + 1) os.length os.length (errs os) (lats os) (succ os) (bsum os) (.slice none 0 0)) := hsm
      clear hsm HT HTT
      go_wp2_with (go_at_call 19; refine (sort19 HSM.out.nums (by omega) hn).mono ?_; rintro _ w3 ⟨rfl, hn3, hg3⟩)
      have s3 := HSM.out.sorted (by omega) hn3 hg3
      have hs3 := hg3.size
      have HSM3 : Hid (Sm w w3 w.heap.size w1.heap.size (w1.heap.size + 1) os.length os.length (errs os) (srt (lats os)) (succ os) (bsum os) (.slice none 0 0)) := s3
      have hms := s3.map.size_le
      clear s3 hn3 hg3 HSM q30 q31
      go_wp2_with (go_at_call 21; refine (callsIn_wide.1 (Try.maps_Keys_21 (some (w1.heap.size + 1)) w3)).mono ?_; rintro _ _ ⟨rfl, rfl⟩)
      refine (keys20 HSM3.out.map hn).mono ?_
      rintro _ w5 ⟨p, vc, ss, rfl, hre, hrow, hb5⟩
      have s5 := (HSM3.out.alloc (by omega) (.cells #[.map (some (w1.heap.size + 1))] 44)).far hb5 (by omega)
      have hs5 := hb5.size
      rw [show (w3.alloc (.cells #[.map (some (w1.heap.size + 1))] 44)).heap.size = w3.heap.size + 1 by simp] at hs5
      obtain ⟨q00, q01⟩ := s5.cellR 0 _ rfl
      obtain ⟨q10, q11⟩ := s5.cellR 1 _ rfl
      obtain ⟨q20, q21⟩ := s5.cellR 2 _ rfl
      obtain ⟨q30, q31⟩ := s5.cellR 3 _ rfl
      obtain ⟨q40, q41⟩ := s5.cellR 4 _ rfl
      obtain ⟨⟨x0, y00⟩, y01⟩ := s5.cellN 0 (by omega)
      obtain ⟨⟨x1, y10⟩, y11⟩ := s5.cellN 1 (by omega)
      obtain ⟨⟨x2, y20⟩, y21⟩ := s5.cellN 2 (by omega)
      obtain ⟨⟨x3, y30⟩, y31⟩ := s5.cellN 3 (by omega)
      obtain ⟨⟨x4, y40⟩, y41⟩ := s5.cellN 4 (by omega)
      have n7 : w.heap.size ≠ w1.heap.size := by omega
      have n8 : w1.heap.size ≠ w.heap.size := by omega
      have HS5 : Hid (Sm w w5 w.heap.size w1.heap.size (w1.heap.size + 1) os.length os.length (errs os) (srt (lats os)) (succ os) (bsum os) (.slice none 0 0)) := s5
      have HROW : Hid (w5.ownsRow (w3.heap.size + 1) 9 1 (.slice p ss.length vc) ss.length (ss.map encStr)) := hrow
      have HRE : Hid (Reasons os ss) := hre
      clear s5 hb5 hrow hre HSM3
      go_wp2_with fail
      have hob : ∀ g, g ≤ w3.heap.size → (Value.slice p ss.length vc).ownBlock ≠ some g := fun g hg e => by
        have := (HROW.out.lt g e).1
        omega
      have hf : Fin w w5 w.heap.size os.length (srt (lats os)) (.slice p ss.length vc) ss.length (ss.map encStr) := ⟨HS5.out.nums, owns_mono HROW.out (by omega), HS5.out.below⟩
      obtain ⟨f1, f2, f3⟩ := (((((hf.set (g := w1.heap.size) (by omega) (by omega) (hob _ (by omega)) 4 (.slice p ss.length vc)).set (g := w.heap.size) (Nat.le_refl _) (by omega) (hob _ (by omega)) 0 (.int .i64 os.length)).set (g := w.heap.size) (Nat.le_refl _) (by omega) (hob _ (by omega)) 1 (.int .i64 (succ os))).set (g := w.heap.size) (Nat.le_refl _) (by omega) (hob _ (by omega)) 2 (.int .i64 (bsum os))).set (g := w.heap.size) (Nat.le_refl _) (by omega) (hob _ (by omega)) 3 (.slice (some ⟨w.heap.size + 1, 0, none⟩) os.length os.length)).set (g := w.heap.size) (Nat.le_refl _) (by omega) (hob _ (by omega)) 4 (.slice p ss.length vc)
      exact bodyPost_ret (v := .agg #[.int .i64 os.length, .int .i64 (succ os), .int .i64 (bsum os), .slice (some ⟨w.heap.size + 1, 0, none⟩) os.length os.length, .slice p ss.length vc]) (by simp [results, Try.results17, go_sem, y00, y10, y20, y30, y40]) rfl ⟨_, _, ss, rfl, f1, f2, HRE.out, f3⟩
end Go.Proofs.Qxb6001780a
