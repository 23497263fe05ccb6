/- The walk of FnSummarizeMatchesModel. -/
import Derived.Test.Qxb6001780aZz
import Derived.Test.Qxb6001780aTo
import Derived.Test.Qxb6001780aBytes
import Derived.Deep.QuietTactic
import Derived.BigQuiet
import Derived.WalkSmall
namespace Go.Proofs.Qxb6001780a
open Go Go.RowKit Go.Maps

/-- What the checks read of the memory, once r is laid. -/
structure View (w W : World) (os : List Rec) (a1 : Option Addr) (B gl : Nat) (p : Option Addr) (vc : Nat) (ss : List (List UInt8)) : Prop where
  head : Head3 W a1 os
  cells : W.heap[B]? = some (.cells #[.int .i64 os.length, .int .i64 (succ os), .int .i64 (bsum os), .slice (some ⟨gl, 0, none⟩) os.length os.length, .slice p ss.length vc] 29 (0, 0))
  nums : Nums W w.heap.size 37 gl os.length (srt (lats os))
  row : W.ownsRow w.heap.size 9 1 (.slice p ss.length vc) ss.length (ss.map encStr)
  re : Reasons os ss
  below : Below w.heap.size w W

theorem View.of {w w1 w2 w3 : World} {os : List Rec} {a1 p : Option Addr} {gl vc : Nat} {ss : List (List UInt8)} (h1 : Head3 w1 a1 os) (b1 : Below w.heap.size w w1) (b2 : Below w1.heap.size w1 w2) (hs : Sum w2 w3 os gl p vc ss) :
    View w (w3.alloc (.cells #[.int .i64 os.length, .int .i64 (succ os), .int .i64 (bsum os), .slice (some ⟨gl, 0, none⟩) os.length os.length, .slice p ss.length vc] 29)) os a1 w3.heap.size gl p vc ss := by
  obtain ⟨s1, s2, s3, s4⟩ := hs
  have e1 := b1.size; have e2 := b2.size; have e3 := s4.size
  have b13 : Below w1.heap.size w1 w3 := b2.trans (s4.mono (by omega))
  refine ⟨h1.later (b13.alloc (by omega) _), heap_alloc_new w3 _, ?_, owns_mono (s2.alloc _) (by omega), s3, (b1.trans (b13.mono (by omega))).alloc (by omega) _⟩
  have hlt := (s1.1.lt gl rfl).2
  exact ⟨owns_mono (nums_kept s1 (Below.heap_alloc _ _ _ hlt)).1 (by omega), s1.2⟩

theorem View.cell {w W : World} {os : List Rec} {a1 p : Option Addr} {B gl vc : Nat} {ss : List (List UInt8)} (h : View w W os a1 B gl p vc ss) (i : Nat) (v : Value) (hv : (#[Value.int .i64 os.length, .int .i64 (succ os), .int .i64 (bsum os), .slice (some ⟨gl, 0, none⟩) os.length os.length, .slice p ss.length vc])[i]? = some v) :
    W.cell? ⟨B, i, none⟩ = some v ∧ W.frozen? ⟨B, i, none⟩ = false := by
  refine ⟨?_, by simp [World.frozen?, h.cells]⟩
  simp only [World.cell?, h.cells]
  simpa using hv

theorem View.far {w W W2 : World} {os : List Rec} {a1 p : Option Addr} {B gl vc : Nat} {ss : List (List UInt8)} (h : View w W os a1 B gl p vc ss) (hb : Below W.heap.size W W2) : View w W2 os a1 B gl p vc ss := by
  have hB : B < W.heap.size := (Array.getElem?_eq_some_iff.1 h.cells).1
  have hs := h.below.size
  refine ⟨h.head.later hb, (hb.block _ hB).trans h.cells, nums_kept h.nums (hb.block _ (h.nums.1.lt gl rfl).2), ⟨h.row.1, ?_⟩, h.re, h.below.trans (hb.mono hs)⟩
  rcases h.row.2 with h2 | ⟨g', cap, cur, hv, hg, hh, r⟩
  · exact .inl h2
  · exact .inr ⟨g', cap, cur, hv, hg, (hb.block _ (Array.getElem?_eq_some_iff.1 hh).1).trans hh, r⟩

theorem View.errAt {w W : World} {os : List Rec} {a1 p : Option Addr} {B gl vc : Nat} {ss : List (List UInt8)} (h : View w W os a1 B gl p vc ss) (hp : 0 < ss.length) :
    ∃ ge, p = some ⟨ge, 0, none⟩ ∧ ∀ i, i < ss.length → ∃ s : ByteArray, W.cell? ⟨ge, i, none⟩ = some (.string s) ∧ s.toList = ss.getD i [] := by
  rcases h.row.2 with ⟨_, h2⟩ | ⟨g', cap, cur, hv, _⟩
  · omega
  · cases hv
    refine ⟨g', rfl, fun i hi => ⟨⟨(ss.getD i []).toArray⟩, ?_, by rw [Lib.toList_data]⟩⟩
    rw [h.row.cellAt i (by omega)]
    simp [List.getD, List.getElem?_eq_getElem hi]

theorem View.rowAt {w W : World} {os : List Rec} {a1 p : Option Addr} {B gl vc : Nat} {ss : List (List UInt8)} (h : View w W os a1 B gl p vc ss) (hp : 0 < os.length) : ∃ g, a1 = some ⟨g, 0, none⟩ ∧ RowAt W g 0 os := by
  rcases h.head with h | ⟨g, h1, _, h2⟩
  · omega
  · exact ⟨g, h1, h2⟩

theorem reasons_ne {os : List Rec} {ss : List (List UInt8)} (h : Reasons os ss) (k : Nat) (hk : k < ss.length) : (ss.getD k []).isEmpty = false := by
  have := (errs_mem os (ss.getD k [])).1 ((h.2.1 _).1 (by simp [List.getD, List.getElem?_eq_getElem hk]))
  simpa using this.1

theorem reasons_less {os : List Rec} {ss : List (List UInt8)} (h : Reasons os ss) (i k : Nat) (hik : i < k) (hk : k < ss.length) : Op.bytesLess (ss.getD i []) (ss.getD k []) = true := by
  rw [bytesLess_eq, decide_eq_true_eq]
  have := List.pairwise_iff_getElem.1 h.1 i k (by omega) hk hik
  simpa [List.getD, List.getElem?_eq_getElem hk, List.getElem?_eq_getElem (show i < ss.length by omega)] using this

theorem not_snoc {f : Nat → List UInt8} {q : Nat} {s : List UInt8} {e : List UInt8} (h : ∀ i, i < q → f i ≠ s) (hf : f q = e) (hne : (e == s) = false) : Hid (∀ i, i < q + 1 → f i ≠ s) := by
  intro i hi
  by_cases hiq : i < q
  · exact h i hiq
  · obtain rfl : i = q := by omega
    rw [hf]
    exact beq_eq_false_iff_ne.1 hne

theorem found_err {os : List Rec} {ss : List (List UInt8)} {sk : List UInt8} {k q : Nat} (h : Reasons os ss) (hk : k < ss.length) (hs : sk = ss.getD k []) (hq : os.length ≤ q) : ¬ ∀ i, i < q → ebs (os.getD i rec0) ≠ sk := by
  intro h2
  obtain ⟨_, j, hj, he⟩ := (errs_mem os (ss.getD k [])).1 ((h.2.1 _).1 (by simp [List.getD, List.getElem?_eq_getElem hk]))
  exact h2 j (by omega) (by rw [he, hs])

theorem found_ss {os : List Rec} {ss : List (List UInt8)} {e : List UInt8} {k q : Nat} (h : Reasons os ss) (hk : k < os.length) (he : ebs (os.getD k rec0) = e) (hne : e.isEmpty = false) (hq : ss.length ≤ q) : ¬ ∀ i, i < q → ss.getD i [] ≠ e := by
  intro h2
  have hm := (h.2.1 e).2 ((errs_mem os e).2 ⟨fun h3 => by (rw [h3] at hne; cases hne), k, hk, he⟩)
  obtain ⟨i, hi, h4⟩ := List.getElem_of_mem hm
  exact h2 i (by omega) (by simp [List.getD, List.getElem?_eq_getElem hi, h4])

theorem drew_two (W : World) (a b : Nat) : ∃ n, (W.drewN a).drewN b = W.drewN n := ⟨a + b, by simp⟩

theorem reasons_len {os : List Rec} {ss : List (List UInt8)} (h : Reasons os ss) : succ os + ss.length ≤ os.length := by
  have := succ_errs os
  have := h.2.2
  omega
theorem reasons_bool {os : List Rec} {ss : List (List UInt8)} (h : Reasons os ss) : (((ss.length : Int) == 0) == ((succ os : Int) == (os.length : Int))) = true := by
  have h1 := succ_errs os
  have h2 := h.2.2
  have h3 : ss.length = 0 ↔ (errs os).length = 0 := by
    constructor
    · intro h4
      cases he : errs os with
      | nil => rfl
      | cons x xs =>
        have := (h.2.1 x).2 (by rw [he]; simp)
        rw [List.length_eq_zero_iff.1 h4] at this
        cases this
    · omega
  by_cases hz : ss.length = 0
  · have := h3.1 hz
    rw [show ((ss.length : Int) == 0) = true by rw [beq_iff_eq]; omega, show ((succ os : Int) == (os.length : Int)) = true by rw [beq_iff_eq]; omega]
    rfl
  · rw [show ((ss.length : Int) == 0) = false by rw [beq_eq_false_iff_ne]; omega, show ((succ os : Int) == (os.length : Int)) = false by rw [beq_eq_false_iff_ne]; omega]
    rfl

set_option maxRecDepth 100000 in
set_option maxHeartbeats 2000000 in
theorem main_all (os : List Rec) (a : Option Addr) (c : Nat) (w : World) (hr : In3 w a c os) (hsz : ∀ j, j < os.length → (os.getD j rec0).err.size ≤ maxLen) :
    Calls Try.prog 3 #[.slice a os.length c] w fun e w' => e = .returned (.bool true) ∧ Below w.heap.size w w' := by
  have HR : Hid (In3 w a c os) := hr
  have HZ : Hid (∀ j, j < os.length → (os.getD j rec0).err.size ≤ maxLen) := hsz
  clear hr hsz
  go_enter Try.func3, Try.ntmps3
  go_wp2_with fail
  refine (bytes6 os a c w HR.out.rows).mono ?_
  rintro _ _ ⟨⟨t, rfl⟩, rfl⟩
  cases t
  · go_wp2
    go_ret
    exact ⟨rfl, Below.refl _ _⟩
  by_cases hn : os.length ≤ 4096
  rotate_left
  · go_wp2
    go_ret
    exact ⟨rfl, Below.refl _ _⟩
  go_wp2_with fail
  refine (outs7 os a c w HR.out.rows (by omega)).mono ?_
  rintro _ _ ⟨⟨t, rfl⟩, rfl⟩
  by_cases ht : 1048576 < t
  · go_wp2
    go_ret
    exact ⟨rfl, Below.refl _ _⟩
  go_wp2_with fail
  refine (clone_all os a c w HR.out hn).mono ?_
  rintro _ w1 ⟨a1, c1, rfl, hh1, hb1⟩
  clear HR ht
  go_wp2_with fail
  refine (to_all os a1 c1 w1 hh1 hn).mono ?_
  rintro _ w2 ⟨a2, c2, rfl, hh2, hb2⟩
  go_wp2_with fail
  refine (zz_all os a2 c2 w2 hh2 hn HZ.out).mono ?_
  rintro _ w3 ⟨gl, p, vc, ss, rfl, hs⟩
  have hV := View.of hh1 hb1 hb2 hs
  have HV : Hid (View w (w3.alloc (.cells #[.int .i64 os.length, .int .i64 (succ os), .int .i64 (bsum os), .slice (some ⟨gl, 0, none⟩) os.length os.length, .slice p ss.length vc] 29)) os a1 w3.heap.size gl p vc ss) := hV
  clear hV hh1 hb1 hb2 hs hh2
  go_wp2_with fail
  generalize w3.alloc (.cells #[.int .i64 os.length, .int .i64 (succ os), .int .i64 (bsum os), .slice (some ⟨gl, 0, none⟩) os.length os.length, .slice p ss.length vc] 29) = W at *
  generalize w3.heap.size = B at *
  clear HZ
  go_loopw [4, 5, 6] (fun s b i wr => ∃ k : Nat, k ≤ os.length ∧ i = .int .i64 k ∧ s = .int .i64 (succ (os.take k)) ∧ b = .int .i64 (bsum (os.take k)) ∧ W = wr) (fun _ _ i _ => os.length - (intOf i).toNat)
  case atStart => exact ⟨0, Nat.zero_le _, rfl, rfl, rfl, rfl⟩
  case round =>
    obtain ⟨k, hk, rfl, rfl, rfl, rfl⟩ := hrel
    have hsu := succ_le (os.take k)
    have hsl : (os.take k).length ≤ k := List.length_take_le _ _
    by_cases hlt : k < os.length
    · obtain ⟨g, hae, hrow⟩ : ∃ g, a1 = some ⟨g, 0, none⟩ ∧ RowAt W g 0 os := by
        rcases HV.out.head with h | ⟨g, h1, _, h2⟩
        · omega
        · exact ⟨g, h1, h2⟩
      subst hae
      obtain ⟨r, hrr⟩ : ∃ r, r = os.getD k rec0 := ⟨_, rfl⟩
      obtain ⟨-, d1, d2⟩ := hrow k hlt
      rw [← hrr, Nat.zero_add] at d1 d2
      have HS : Hid (succ (os.take (k + 1)) = succ (os.take k) + (if r.err.toList.isEmpty then 1 else 0) ∧ bsum (os.take (k + 1)) = wrap64 (bsum (os.take k) + r.byt)) := by
        rw [hrr]
        exact ⟨by rw [succ_take os k hlt, ebs, Lib.toList_data], bsum_take os k hlt⟩
      clear hrr hrow
      generalize succ (os.take k) = sc at *
      generalize bsum (os.take k) = bs at *
      by_cases he : r.err.toList.isEmpty = true
      · go_wp2
        go_roundw
        case rel => exact ⟨k + 1, hlt, by go_num, by rw [HS.out.1, if_pos he]; go_num, by rw [HS.out.2], trivial⟩
        case measure => simp [intOf]; omega
      · have he' : r.err.toList.isEmpty = false := by simpa using he
        clear he
        go_wp2
        go_roundw
        case rel => exact ⟨k + 1, hlt, by go_num, by rw [HS.out.1, he']; go_num, by rw [HS.out.2], trivial⟩
        case measure => simp [intOf]; omega
    · rw [List.take_of_length_le (by omega)] at hsu hsl ⊢
      clear hsl
      obtain ⟨q0, -⟩ := HV.out.cell 0 _ rfl
      obtain ⟨q1, -⟩ := HV.out.cell 1 _ rfl
      obtain ⟨q2, -⟩ := HV.out.cell 2 _ rfl
      obtain ⟨q3, -⟩ := HV.out.cell 3 _ rfl
      obtain ⟨q4, -⟩ := HV.out.cell 4 _ rfl
      have hse := reasons_len HV.out.re
      have hbb := reasons_bool HV.out.re
      go_wp2_with fail
      refine (ins_all os a1 c1 W HV.out.head hn).mono ?_
      rintro _ W2 ⟨rfl, hn2, hb2⟩
      have hV2 := HV.out.far hb2
      have HN2 : Hid (Nums W2 W.heap.size 2 W.heap.size os.length (srt (lats os))) := hn2
      have HV2 : Hid (View w W2 os a1 B gl p vc ss) := hV2
      clear hn2 hb2 hV2 HV hbb q0 q1 q2 q3 q4
      obtain ⟨gm, hgm⟩ : ∃ gm, gm = W.heap.size := ⟨_, rfl⟩
      rw [← hgm] at HN2 ⊢
      clear hgm
      obtain ⟨q3, -⟩ := HV2.out.cell 3 _ rfl
      obtain ⟨q4, -⟩ := HV2.out.cell 4 _ rfl
      go_wp2_with fail
      go_loopw [8] (fun i wr => ∃ k : Nat, k ≤ os.length ∧ i = .int .i64 k ∧ ∃ nq, wr = W2.drewN nq) (fun i _ => os.length - (intOf i).toNat)
      case atStart => exact ⟨0, Nat.zero_le _, rfl, 0, rfl⟩
      case round =>
        clear hk hlt
        obtain ⟨k, hk, rfl, nq, rfl⟩ := hrel
        by_cases hlt : k < os.length
        · have d1 := HV2.out.nums.cell k hlt
          have d2 := HN2.out.cell k hlt
          generalize (srt (lats os)).getD k 0 = x at *
          go_wp2
          go_quiet (fail)
          go_wp2
          go_roundw
          case rel => exact ⟨k + 1, hlt, by go_num, _, rfl⟩
          case measure => simp [intOf]; omega
        · go_wp2_with fail
          clear hk hlt
          go_loopw [9] (fun i wr => ∃ k : Nat, k ≤ ss.length ∧ i = .int .i64 k ∧ ∃ nq, wr = W2.drewN nq) (fun i _ => ss.length - (intOf i).toNat)
          case atStart => exact ⟨0, Nat.zero_le _, rfl, nq, rfl⟩
          case round =>
            clear nq
            obtain ⟨k, hk, rfl, nq, rfl⟩ := hrel
            by_cases hlt : k < ss.length
            · obtain ⟨ge, hpe, hss⟩ := HV2.out.errAt (by omega)
              subst hpe
              obtain ⟨sk, d1, d2⟩ := hss k hlt
              have hne : sk.toList.isEmpty = false := by rw [d2]; exact reasons_ne HV2.out.re k hlt
              have HD : Hid (sk.toList = ss.getD k []) := d2
              clear d2
              by_cases hk0 : k = 0
              · subst hk0
                clear hss
                go_wp2
                go_quiet (fail)
                go_wp2
                go_loopw [10, 11] (fun f j wr => ∃ q : Nat, q ≤ os.length ∧ j = .int .i64 q ∧ f = .bool false ∧ Hid (∀ i, i < q → ebs (os.getD i rec0) ≠ sk.toList) ∧ ∃ nq, wr = W2.drewN nq) (fun _ j _ => os.length - (intOf j).toNat)
                case atStart => exact ⟨0, Nat.zero_le _, rfl, rfl, fun i hi => absurd hi (Nat.not_lt_zero _), drew_two _ _ _⟩
                case round =>
                  clear nq
                  obtain ⟨q, hq, rfl, rfl, HQ, nq, rfl⟩ := hrel
                  by_cases hql : q < os.length
                  · obtain ⟨g, hae, hrow⟩ := HV2.out.rowAt (by omega)
                    subst hae
                    obtain ⟨-, -, f2⟩ := hrow q hql
                    rw [Nat.zero_add] at f2
                    obtain ⟨er, her⟩ : ∃ er, er = (os.getD q rec0).err := ⟨_, rfl⟩
                    rw [← her] at f2
                    have HER : Hid (ebs (os.getD q rec0) = er.toList) := by unfold Hid ebs; rw [← her, Lib.toList_data]
                    clear hrow her
                    by_cases heq : (er.toList == sk.toList) = true
                    · go_wp2
                      go_quiet (fail)
                      go_wp2
                      go_roundw
                      case rel => exact ⟨_, hlt, by go_num, _, rfl⟩
                      case measure => simp [intOf]; omega
                    · have heq' : (er.toList == sk.toList) = false := by simpa using heq
                      clear heq
                      go_wp2
                      go_quiet (fail)
                      go_wp2
                      go_roundw
                      case rel => exact ⟨q + 1, hql, by go_num, rfl, not_snoc HQ.out HER.out heq', _, rfl⟩
                      case measure => simp [intOf]; omega
                  · exact absurd HQ.out (found_err HV2.out.re hlt HD.out (by omega))
              · obtain ⟨sj, e1, e2⟩ := hss (k - 1) (by omega)
                have hk1 : 0 < k := by omega
                have hles : Op.bytesLess sj.toList sk.toList = true := by rw [e2, HD.out]; exact reasons_less HV2.out.re (k - 1) k (by omega) hlt
                clear hk0 hss e2
                go_wp2
                go_quiet (fail)
                go_wp2
                go_loopw [10, 11] (fun f j wr => ∃ q : Nat, q ≤ os.length ∧ j = .int .i64 q ∧ f = .bool false ∧ Hid (∀ i, i < q → ebs (os.getD i rec0) ≠ sk.toList) ∧ ∃ nq, wr = W2.drewN nq) (fun _ j _ => os.length - (intOf j).toNat)
                case atStart => exact ⟨0, Nat.zero_le _, rfl, rfl, fun i hi => absurd hi (Nat.not_lt_zero _), drew_two _ _ _⟩
                case round =>
                  clear nq
                  obtain ⟨q, hq, rfl, rfl, HQ, nq, rfl⟩ := hrel
                  by_cases hql : q < os.length
                  · obtain ⟨g, hae, hrow⟩ := HV2.out.rowAt (by omega)
                    subst hae
                    obtain ⟨-, -, f2⟩ := hrow q hql
                    rw [Nat.zero_add] at f2
                    obtain ⟨er, her⟩ : ∃ er, er = (os.getD q rec0).err := ⟨_, rfl⟩
                    rw [← her] at f2
                    have HER : Hid (ebs (os.getD q rec0) = er.toList) := by unfold Hid ebs; rw [← her, Lib.toList_data]
                    clear hrow her
                    by_cases heq : (er.toList == sk.toList) = true
                    · go_wp2
                      go_quiet (fail)
                      go_wp2
                      go_roundw
                      case rel => exact ⟨_, hlt, by go_num, _, rfl⟩
                      case measure => simp [intOf]; omega
                    · have heq' : (er.toList == sk.toList) = false := by simpa using heq
                      clear heq
                      go_wp2
                      go_quiet (fail)
                      go_wp2
                      go_roundw
                      case rel => exact ⟨q + 1, hql, by go_num, rfl, not_snoc HQ.out HER.out heq', _, rfl⟩
                      case measure => simp [intOf]; omega
                  · exact absurd HQ.out (found_err HV2.out.re hlt HD.out (by omega))
            · go_wp2_with fail
              clear hk hlt
              go_loopw [12] (fun i wr => ∃ k : Nat, k ≤ os.length ∧ i = .int .i64 k ∧ ∃ nq, wr = W2.drewN nq) (fun i _ => os.length - (intOf i).toNat)
              case atStart => exact ⟨0, Nat.zero_le _, rfl, nq, rfl⟩
              case round =>
                clear nq
                obtain ⟨k, hk, rfl, nq, rfl⟩ := hrel
                by_cases hlt : k < os.length
                · obtain ⟨g, hae, hrow⟩ := HV2.out.rowAt (by omega)
                  subst hae
                  obtain ⟨-, -, f2⟩ := hrow k hlt
                  rw [Nat.zero_add] at f2
                  obtain ⟨er, her⟩ : ∃ er, er = (os.getD k rec0).err := ⟨_, rfl⟩
                  rw [← her] at f2
                  have HER : Hid (ebs (os.getD k rec0) = er.toList) := by unfold Hid ebs; rw [← her, Lib.toList_data]
                  clear hrow her
                  by_cases hem : er.toList.isEmpty = true
                  · go_wp2
                    go_roundw
                    case rel => exact ⟨k + 1, hlt, by go_num, _, rfl⟩
                    case measure => simp [intOf]; omega
                  · have hem' : er.toList.isEmpty = false := by simpa using hem
                    clear hem
                    go_wp2
                    go_loopw [13, 14] (fun f j wr => ∃ q : Nat, q ≤ ss.length ∧ j = .int .i64 q ∧ f = .bool false ∧ Hid (∀ i, i < q → ss.getD i [] ≠ er.toList) ∧ ∃ nq, wr = W2.drewN nq) (fun _ j _ => ss.length - (intOf j).toNat)
                    case atStart => exact ⟨0, Nat.zero_le _, rfl, rfl, fun i hi => absurd hi (Nat.not_lt_zero _), nq, rfl⟩
                    case round =>
                      clear nq
                      obtain ⟨q, hq, rfl, rfl, HQ, nq, rfl⟩ := hrel
                      by_cases hql : q < ss.length
                      · obtain ⟨ge, hpe, hss⟩ := HV2.out.errAt (by omega)
                        subst hpe
                        obtain ⟨sk, d1, d2⟩ := hss q hql
                        have HD : Hid (ss.getD q [] = sk.toList) := d2.symm
                        clear d2 hss
                        by_cases heq : (sk.toList == er.toList) = true
                        · go_wp2
                          go_quiet (fail)
                          go_wp2
                          go_roundw
                          case rel => exact ⟨k + 1, hlt, by go_num, _, rfl⟩
                          case measure => simp [intOf]; omega
                        · have heq' : (sk.toList == er.toList) = false := by simpa using heq
                          clear heq
                          go_wp2
                          go_quiet (fail)
                          go_wp2
                          go_roundw
                          case rel => exact ⟨q + 1, hql, by go_num, rfl, not_snoc HQ.out HD.out heq', _, rfl⟩
                          case measure => simp [intOf]; omega
                      · exact absurd HQ.out (found_ss HV2.out.re hlt HER.out hem' (by omega))
                · go_wp2
                  go_ret
                  exact ⟨rfl, below_drewN HV2.out.below _⟩
end Go.Proofs.Qxb6001780a
