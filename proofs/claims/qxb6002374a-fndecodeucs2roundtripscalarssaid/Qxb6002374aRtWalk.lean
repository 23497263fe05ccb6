/- The walk of FnDecodeUCS2RoundTripScalars. -/
import Derived.Test.Qxb6002374aHeld
import Derived.Test.Qxb6002374aLoneWalk
import Derived.Test.Qxb6002374aApp2
import Derived.Test.Qxb6002374aRtPlain
namespace Go.Proofs.Qxb6002374a
open Go.RowKit
theorem bytes11 (a b : Option Addr) (n m c d : Nat) (w : World) (hs : n + m ≤ 1048576) :
    Calls Try.prog 11 #[.slice a n c, .slice b m d] w fun e w' => e = .returned (.bool true) ∧ w = w' := by
  go_enter Try.func11, Try.ntmps11
  go_wp2
  go_ret
  exact ⟨rfl, rfl⟩

theorem bytes11_no (a b : Option Addr) (n m c d : Nat) (w : World) (hn : n ≤ maxLen) (hm : m ≤ maxLen) (hs : ¬ n + m ≤ 1048576) :
    Calls Try.prog 11 #[.slice a n c, .slice b m d] w fun e w' => e = .returned (.bool false) ∧ w = w' := by
  unfold maxLen at hn hm
  by_cases h1 : n ≤ 1048576
  · by_cases h2 : m ≤ 1048576
    all_goals
      go_enter Try.func11, Try.ntmps11
      go_wp2
      go_ret
      exact ⟨rfl, rfl⟩
  · go_enter Try.func11, Try.ntmps11
    go_wp2
    go_ret
    exact ⟨rfl, rfl⟩

set_option maxRecDepth 100000 in
set_option maxHeartbeats 400000 in
theorem rt_big (a b : Option Addr) (n m c d : Nat) (w : World) (hn : n ≤ maxLen) (hm : m ≤ maxLen) (hs : ¬ n + m ≤ 1048576 ∨ 65536 < n ∨ 1048576 < 4 * n + m) :
    Calls Try.prog 5 #[.slice a n c, .slice b m d] w fun e w' => e = .returned (.bool true) ∧ Below w.heap.size w w' := by
  by_cases h0 : n + m ≤ 1048576
  · by_cases h1 : 65536 < n
    · go_enter Try.func5, Try.ntmps5
      go_wp2_with (go_at_call 11; refine (bytes11 _ _ _ _ _ _ _ h0).mono ?_; rintro e w' ⟨rfl, rfl⟩)
      go_ret
      exact ⟨rfl, Below.refl _ _⟩
    · have h2 : 1048576 < 4 * n + m := by omega
      clear hs
      go_enter Try.func5, Try.ntmps5
      go_wp2_with (go_at_call 11; refine (bytes11 _ _ _ _ _ _ _ h0).mono ?_; rintro e w' ⟨rfl, rfl⟩)
      go_ret
      exact ⟨rfl, Below.refl _ _⟩
  · clear hs
    go_enter Try.func5, Try.ntmps5
    go_wp2_with (go_at_call 11; refine (bytes11_no _ _ _ _ _ _ _ hn hm h0).mono ?_; rintro e w' ⟨rfl, rfl⟩)
    go_ret
    exact ⟨rfl, Below.refl _ _⟩

set_option maxRecDepth 100000 in
set_option maxHeartbeats 1000000 in
theorem rt_go (rs tl : List Int) (a b : Option Addr) (c d : Nat) (w : World) (hA : InRow .u32 w a c rs) (hB : InRow .u8 w b d tl) (hr32 : ∀ j, 0 ≤ rs.getD j 0 ∧ rs.getD j 0 ≤ 4294967295) (hn : rs.length ≤ 65536) (hm : 4 * rs.length + tl.length ≤ 1048576) (ht8 : ∀ x ∈ tl, 0 ≤ x ∧ x ≤ 255) :
    Calls Try.prog 5 #[.slice a rs.length c, .slice b tl.length d] w fun e w' => e = .returned (.bool true) ∧ Below w.heap.size w w' := by
  have HA : Hid (InRow .u32 w a c rs) := hA
  have HB : Hid (InRow .u8 w b d tl) := hB
  have HR : Hid (∀ j, 0 ≤ rs.getD j 0 ∧ rs.getD j 0 ≤ 4294967295) := hr32
  have HT : Hid (∀ x ∈ tl, 0 ≤ x ∧ x ≤ 255) := ht8
  clear hA hB hr32 ht8
  go_enter Try.func5, Try.ntmps5
  go_wp2_with (go_at_call 11; refine (bytes11 _ _ _ _ _ _ _ (by omega)).mono ?_; rintro e w' ⟨rfl, rfl⟩)
  go_loop [5] (fun i => ∃ k : Nat, k ≤ rs.length ∧ i = .int .i64 k ∧ Hid (∀ j, j < k → Good (rs.getD j 0))) (fun i => rs.length - (intOf i).toNat)
  case atStart => exact ⟨0, Nat.zero_le _, rfl, fun j hj => absurd hj (Nat.not_lt_zero _)⟩
  case round =>
    obtain ⟨k, hk, rfl, HG⟩ := hrel
    by_cases hlt : k < rs.length
    · obtain ⟨ab, off, hae, hcells⟩ := HA.out.at (by omega)
      subst hae
      obtain ⟨r, hr⟩ : ∃ r, r = rs.getD k 0 := ⟨_, rfl⟩
      have hcell : w.cell? ⟨ab, off + k, none⟩ = some (.int .u32 r) := by rw [hr]; exact hcells k hlt
      have hr0 : 0 ≤ r ∧ r ≤ 4294967295 := by rw [hr]; exact HR.out k
      have HRR : Hid (r = rs.getD k 0) := hr
      clear hr hcells
      by_cases h0 : r = 0
      · have e0 : (r == 0) = true := by rw [beq_iff_eq]; exact h0
        clear h0
        go_wp2
        go_ret
        exact ⟨rfl, Below.refl _ _⟩
      have e0 : (r == 0) = false := by rw [beq_eq_false_iff_ne]; exact h0
      by_cases h1 : 1114111 < r
      · go_wp2
        go_ret
        exact ⟨rfl, Below.refl _ _⟩
      by_cases h2 : r < 55296
      · have HG2 : Hid (∀ j, j < k + 1 → Good (rs.getD j 0)) := fun j hj => by
          by_cases hjk : j < k
          · exact HG.out j hjk
          · obtain rfl : j = k := by omega
            rw [← HRR.out]; unfold Good; omega
        clear h0
        go_wp2
        go_round
        case rel => exact ⟨k + 1, by omega, by go_num, HG2⟩
        case measure => simp [intOf]; omega
      by_cases h3 : r ≤ 57343
      · clear h0
        go_wp2
        go_ret
        exact ⟨rfl, Below.refl _ _⟩
      · have HG2 : Hid (∀ j, j < k + 1 → Good (rs.getD j 0)) := fun j hj => by
          by_cases hjk : j < k
          · exact HG.out j hjk
          · obtain rfl : j = k := by omega
            rw [← HRR.out]; unfold Good; omega
        clear h0
        go_wp2
        go_round
        case rel => exact ⟨k + 1, by omega, by go_num, HG2⟩
        case measure => simp [intOf]; omega
    · have HG2 : Hid (∀ r ∈ rs, Good r) := fun r hr => by
        obtain ⟨j, hj, he⟩ := List.getElem_of_mem hr
        have := HG.out j (by omega)
        rwa [show rs.getD j 0 = r by simp [List.getD, List.getElem?_eq_getElem hj, he]] at this
      clear HG
      obtain ⟨i0, hi, hi0, hi1, hi2⟩ := info_parts info5
      go_wp2_with (first
        | (go_at_call 12; refine (cloneW_all rs a c _ HA.out (by omega)).mono ?_; rintro e w1 ⟨a1, c1, rfl, hh1, hb1⟩)
        | (go_at_call 8; refine (cloneB_all tl b d _ (HB.out.later hb1) (by omega)).mono ?_; rintro e w2 ⟨b1, d1, rfl, hh2, hb2⟩))
      have hs1 := hb1.size
      have hs2 := hb2.size
      have HH1 : Hid (Held .u32 w2 a1 rs) := hh1.later hb2
      have HH2 : Hid (Held .u8 w2 b1 tl) := hh2
      clear hh1 hh2
      go_loopw [7, 8, 9, 10] (fun ev wv un i wr => ∃ k : Nat, k ≤ rs.length ∧ i = .int .i64 k ∧ un = .int .i64 (uTo rs k).length ∧ Two w2.heap.size w2 wr ev wv (eTo rs k) (wTo rs k)) (fun _ _ _ i _ => rs.length - (intOf i).toNat)
      case atStart => exact ⟨0, Nat.zero_le _, rfl, rfl, World.ownsRow_nil _ _ _ _, World.ownsRow_nil _ _ _ _, Below.refl _ _, Nat.le_refl _, fun k hk => by cases hk⟩
      case round =>
        clear hlt hk
        obtain ⟨q, hk, rfl, rfl, H2⟩ := hrel
        have hul := uTo_len rs q
        have hel := eTo_len rs q
        have hwl := wTo_len rs q
        have HEL : Hid ((eTo rs q).length = 2 * (uTo rs q).length) := hel
        clear hel
        have hsr := H2.below.size
        by_cases hlt : q < rs.length
        · obtain ⟨g1, hae, hg1, hcells⟩ : ∃ g, a1 = some ⟨g, 0, none⟩ ∧ g < w2.heap.size ∧ ∀ j, j < rs.length → w2.cell? ⟨g, j, none⟩ = some (.int .u32 (rs.getD j 0)) := by
            rcases HH1.out with h | h
            · omega
            · exact h
          subst hae
          obtain ⟨r, hr⟩ : ∃ r, r = rs.getD q 0 := ⟨_, rfl⟩
          have hcell : wr.cell? ⟨g1, q, none⟩ = some (.int .u32 r) := by rw [hr, H2.below.cell (p := ⟨g1, q, none⟩) hg1]; exact hcells q hlt
          have hgd : Good r := by
            rw [hr]
            apply HG2.out
            rw [show rs.getD q 0 = rs[q] by simp [List.getD, List.getElem?_eq_getElem hlt]]
            exact List.getElem_mem hlt
          have HRR : Hid (r = rs.getD q 0) := hr
          unfold Good at hgd
          obtain ⟨hgd1, hgd2, hgd3⟩ := hgd
          clear hr hcells hgd3
          by_cases hb : r < 65536
          · go_wp2_with (first
              | (at_builtin; refine wpList_append_apart _ rfl _ _ 22 rfl w2.heap.size 5 i0 (.int .u8 0) 1 1 Try.underlying22 hi hi0 hi1 hi2 rfl (by decide) _ _ _ rfl (H2.own1.alloc _) ⟨wr.heap.size, 0, none⟩ 2 2 [.int .u8 (r % 256), .int .u8 (r / 256)] rfl rfl (cells_new wr [.int .u8 (r % 256), .int .u8 (r / 256)] 5) (ints_oneCell .u8 [r % 256, r / 256]) (by rw [HEL.out]; unfold maxLen; omega) (by rw [HEL.out]; omega) (by simp; omega) ?_; intro v' w3 hown' hgrow hap; have H3 := H2.enc (news := [r % 256, r / 256]) rfl hown' hgrow hap; have hs3 := hgrow.size; simp only [World.size_alloc] at hs3; clear hown' hgrow hap hcell)
              | (go_at_call 13; refine (app2_any (wTo rs q) w2.heap.size _ r _ (by omega) H3.own2 (by omega) (by omega) (by omega)).mono ?_; rintro e w4 ⟨wv', rfl, hown4, hgrow4, hap4⟩; have H4 := H3.want hown4 hgrow4 hap4))
            have S := step_small rs q r hlt HRR.out hb
            clear hgrow4 hap4 hown4 H2 H3
            go_roundw
            case rel => exact ⟨q + 1, by omega, by go_num, by rw [S.1]; go_num, by rw [S.2.1, S.2.2]; exact H4⟩
            case measure => simp [intOf]; omega
          · have hbt := u32_and1023 (r - 65536) (by omega) (by omega)
            obtain ⟨l, hl⟩ : ∃ l, l = (r - 65536) % 1024 := ⟨_, rfl⟩
            rw [← hl] at hbt
            have hl1 : 0 ≤ l ∧ l < 1024 := by omega
            have HL : Hid (l = (r - 65536) % 1024) := hl
            clear hl
            go_wp2_with (first
              | (at_builtin; refine wpList_append_apart _ rfl _ _ 22 rfl w2.heap.size 5 i0 (.int .u8 0) 1 1 Try.underlying22 hi hi0 hi1 hi2 rfl (by decide) _ _ _ rfl (H2.own1.alloc _) ⟨wr.heap.size, 0, none⟩ 4 4 [.int .u8 ((55296 + (r - 65536) / 1024) % 256), .int .u8 ((55296 + (r - 65536) / 1024) / 256), .int .u8 ((56320 + l) % 256), .int .u8 ((56320 + l) / 256)] rfl rfl (cells_new wr [.int .u8 ((55296 + (r - 65536) / 1024) % 256), .int .u8 ((55296 + (r - 65536) / 1024) / 256), .int .u8 ((56320 + l) % 256), .int .u8 ((56320 + l) / 256)] 5) (ints_oneCell .u8 [(55296 + (r - 65536) / 1024) % 256, (55296 + (r - 65536) / 1024) / 256, (56320 + l) % 256, (56320 + l) / 256]) (by rw [HEL.out]; unfold maxLen; omega) (by rw [HEL.out]; omega) (by simp; omega) ?_; intro v' w3 hown' hgrow hap; have H3 := H2.enc (news := [(55296 + (r - 65536) / 1024) % 256, (55296 + (r - 65536) / 1024) / 256, (56320 + l) % 256, (56320 + l) / 256]) rfl hown' hgrow hap; have hs3 := hgrow.size; simp only [World.size_alloc] at hs3; clear hown' hgrow hap hcell)
              | (go_at_call 13; refine (app2_any (wTo rs q) w2.heap.size _ r _ (by omega) H3.own2 (by omega) (by omega) (by omega)).mono ?_; rintro e w4 ⟨wv', rfl, hown4, hgrow4, hap4⟩; have H4 := H3.want hown4 hgrow4 hap4))
            have S := step_great rs q r hlt HRR.out (by omega)
            rw [← HL.out] at S
            clear hgrow4 hap4 hown4 H2 H3
            go_roundw
            case rel => exact ⟨q + 1, by omega, by go_num, by rw [S.1]; go_num, by rw [S.2.1, S.2.2]; exact H4⟩
            case measure => simp [intOf]; omega
        · go_wp2_with (at_builtin; refine wpList_append_apart _ rfl _ _ 22 rfl w2.heap.size 5 i0 (.int .u8 0) 1 1 Try.underlying22 hi hi0 hi1 hi2 rfl (by decide) _ _ _ rfl (H2.own1.alloc _) ⟨wr.heap.size, 0, none⟩ 2 2 [.int .u8 0, .int .u8 0] rfl rfl (cells_new wr [.int .u8 0, .int .u8 0] 5) (ints_oneCell .u8 [0, 0]) (by rw [HEL.out]; unfold maxLen; omega) (by rw [HEL.out]; omega) (by simp; omega) ?_; intro v' w3 hown' hgrow hap; have H3 := H2.enc (news := [0, 0]) rfl hown' hgrow hap; clear hown' hgrow hap)
          have HEL2 : Hid ((eTo rs q ++ [0, 0]).length = 2 * (uTo rs q).length + 2) := by unfold Hid; rw [List.length_append, HEL.out]; rfl
          clear H2 hsr
          go_loopw [7, 15] (fun ev i wr => ∃ j : Nat, j ≤ tl.length ∧ i = .int .i64 j ∧ Two w2.heap.size w2 wr ev u8 (eTo rs q ++ [0, 0] ++ tl.take j) (wTo rs q)) (fun _ i _ => tl.length - (intOf i).toNat)
          case atStart => exact ⟨0, Nat.zero_le _, rfl, by simpa using H3⟩
          case round =>
            clear H3
            obtain ⟨j, hj, rfl, H4⟩ := hrel
            have hsr := H4.below.size
            have htl : (eTo rs q ++ [0, 0] ++ tl.take j).length ≤ 2 * (uTo rs q).length + 2 + tl.length := by rw [List.length_append, HEL2.out, List.length_take]; omega
            by_cases hjt : j < tl.length
            · obtain ⟨g2, hbe, hg2, hcells⟩ : ∃ g, b1 = some ⟨g, 0, none⟩ ∧ g < w2.heap.size ∧ ∀ j, j < tl.length → w2.cell? ⟨g, j, none⟩ = some (.int .u8 (tl.getD j 0)) := by
                rcases HH2.out with h | h
                · omega
                · exact h
              subst hbe
              obtain ⟨x, hx⟩ : ∃ x, x = tl.getD j 0 := ⟨_, rfl⟩
              have hcell : wr.cell? ⟨g2, j, none⟩ = some (.int .u8 x) := by rw [hx, H4.below.cell (p := ⟨g2, j, none⟩) hg2]; exact hcells j hjt
              have HX : Hid (x = tl.getD j 0) := hx
              clear hx hcells
              go_wp2_with (at_builtin; refine wpList_append_apart _ rfl _ _ 22 rfl w2.heap.size 5 i0 (.int .u8 0) 1 1 Try.underlying22 hi hi0 hi1 hi2 rfl (by decide) _ _ _ rfl (H4.own1.alloc _) ⟨wr.heap.size, 0, none⟩ 1 1 [.int .u8 x] rfl rfl (cells_new wr [.int .u8 x] 5) (ints_oneCell .u8 [x]) (by unfold maxLen; omega) (by omega) (by simp; omega) ?_; intro v' w5 hown' hgrow hap; have H5 := H4.enc (news := [x]) rfl hown' hgrow hap; clear hown' hgrow hap hcell)
              have S := take_snoc_app (eTo rs q ++ [0, 0]) tl j x hjt HX.out
              clear H4
              go_roundw
              case rel => exact ⟨j + 1, by omega, by go_num, by rw [S]; exact H5⟩
              case measure => simp [intOf]; omega
            · have RW := rt_whole rs tl q j (by omega) hjt HG2.out HT.out
              have hown5 := H4.own1
              obtain ⟨E, hE⟩ : ∃ E, E = eTo rs q ++ [0, 0] ++ tl.take j := ⟨_, rfl⟩
              rw [← hE] at hown5 htl
              have RW2 : 2 * (uTo rs q).length + 1 < E.length ∧ unit E (uTo rs q).length = 0 ∧ (∀ i, i < (uTo rs q).length → unit E i ≠ 0) ∧ runesBytes (dec16 (unitsTo E (uTo rs q).length)) = bytesStr (wTo rs q) ∧ Byt E := by rw [hE]; exact RW
              obtain ⟨r1, r2, r3, r4, r5⟩ := RW2
              clear RW hE
              rcases hown5.2 with ⟨_, hnn⟩ | ⟨g, cp, cur, hv, hg1, hg2, _⟩
              · omega
              · subst hv
                have hcall := ucs_yes E g cp (uTo rs q).length wr (Array.getElem?_eq_some_iff.1 hg2).1 (fun j hj => own_cells hown5 j hj) r5 (by omega) r1 r2 r3
                rw [r4] at hcall
                have hown6 := H4.own2
                have hbl6 := H4.below
                clear hown5 H4 r2 r3 r4 r5 hg2
                go_wp2_with (go_at_call 9; refine hcall.mono ?_; rintro e w6 ⟨rfl, hb6⟩; have hcv := own_bytes (own_below hown6 hb6))
                go_ret
                exact ⟨rfl, hb1.trans ((hb2.mono hs1).trans ((hbl6.mono (by omega)).trans (hb6.mono (by omega))))⟩

theorem isRow_in {k : IntKind} {w : World} {a : Option Addr} {len cap : Nat} {zs : List Int} (h : IsRow k w a len cap zs) : InRow k w a cap (zs.take len) ∧ (zs.take len).length = len ∧ len ≤ maxLen := by
  rcases h with ⟨rfl, rfl, rfl, rfl⟩ | ⟨x, rfl, hlc, hm, hz, hc, hwf⟩
  · exact ⟨.inl ⟨rfl, rfl, rfl⟩, rfl, Nat.zero_le _⟩
  · have hlen : (zs.take len).length = len := by simp; omega
    exact ⟨.inr ⟨x, rfl, fun j hj => by rw [take_getD zs len j (by omega)]; exact hc j (by omega)⟩, hlen, by omega⟩

theorem isRow_wf {k : IntKind} {w : World} {a : Option Addr} {len cap : Nat} {zs : List Int} (h : IsRow k w a len cap zs) : ∀ x ∈ zs.take len, (Lit.int k x).wf = true := by
  rcases h with ⟨_, _, _, rfl⟩ | ⟨_, _, _, _, _, _, hwf⟩
  · intro x hx; simp at hx
  · exact fun x hx => hwf x (List.mem_of_mem_take hx)

theorem getD_range (zs : List Int) (lo hi : Int) (h0 : lo ≤ 0) (h1 : 0 ≤ hi) (h : ∀ x ∈ zs, lo ≤ x ∧ x ≤ hi) (j : Nat) : lo ≤ zs.getD j 0 ∧ zs.getD j 0 ≤ hi := by
  rcases Nat.lt_or_ge j zs.length with hj | hj
  · have e : zs.getD j 0 = zs[j] := by simp only [List.getD, List.getElem?_eq_getElem hj]; rfl
    rw [e]; exact h _ (List.getElem_mem hj)
  · have e : zs.getD j 0 = 0 := by simp only [List.getD, List.getElem?_eq_none hj]; rfl
    rw [e]; exact ⟨h0, h1⟩

theorem rt_walk (a0 : Option Addr) (len0 cap0 : Nat) (z0 : List Int) (a1 : Option Addr) (len1 cap1 : Nat) (z1 : List Int) (w : World) (w0 : IsRow .u32 w a0 len0 cap0 z0) (w1 : IsRow .u8 w a1 len1 cap1 z1) :
    Calls Try.prog 5 #[.slice a0 len0 cap0, .slice a1 len1 cap1] w fun e w' => e = .returned (.bool true) ∧ Below w.heap.size w w' := by
  obtain ⟨hA, hl0, hm0⟩ := isRow_in w0
  obtain ⟨hB, hl1, hm1⟩ := isRow_in w1
  by_cases hs : ¬ len0 + len1 ≤ 1048576 ∨ 65536 < len0 ∨ 1048576 < 4 * len0 + len1
  · exact rt_big a0 a1 len0 len1 cap0 cap1 w hm0 hm1 hs
  · have h32 : ∀ x ∈ z0.take len0, 0 ≤ x ∧ x ≤ 4294967295 := fun x hx => by
      have := isRow_wf w0 x hx
      simp [Lit.wf, IntKind.min, IntKind.max, IntKind.signed, IntKind.bits] at this
      omega
    have h8 : ∀ x ∈ z1.take len1, 0 ≤ x ∧ x ≤ 255 := fun x hx => by
      have := isRow_wf w1 x hx
      simp [Lit.wf, IntKind.min, IntKind.max, IntKind.signed, IntKind.bits] at this
      omega
    have h := rt_go (z0.take len0) (z1.take len1) a0 a1 cap0 cap1 w hA hB (getD_range _ 0 4294967295 (by omega) (by omega) h32) (by omega) (by omega) h8
    rwa [hl0, hl1] at h
end Go.Proofs.Qxb6002374a
