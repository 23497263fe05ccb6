/- The walk of zzAppendUTF8: it appends the rune's bytes. -/
import Derived.Test.Qxb6002374aUcs2
import Derived.Test.Qxb6002374aEnc
import Derived.Laws.BytesString
namespace Go.Proofs.Qxb6002374a
open Go.RowKit
theorem info5 : (Try.prog.info? 5).map (fun i => (i.zero, i.size, i.bytes)) = some (some (.int .u8 0), 1, 1) := by kernel_rfl

/-- An append of several numbers onto a row of the call's own. -/
theorem own_app {B e : Nat} {kd : IntKind} {w wr w1 : World} {u1 v' : Value} {acc news : List Int} {m : Nat} {o : Obj} (hm : m = news.length) (hB : B ≤ w.heap.size) (hbl : Below B w wr)
    (hownr : wr.ownsRow B e 1 u1 acc.length (acc.map (Value.int kd)))
    (hown' : w1.ownsRow B e 1 v' (acc.length + m) (acc.map (Value.int kd) ++ news.map (Value.int kd))) (hgrow : (wr.alloc o).grownBy w1 u1.ownBlock) :
    w1.ownsRow B e 1 v' (acc ++ news).length ((acc ++ news).map (Value.int kd)) ∧ Below B w w1 := by
  subst hm
  have hs := hbl.size
  refine ⟨by simpa using hown', (hbl.alloc (by omega) o).grown hgrow (by simp; omega) fun k hk => (hownr.lt k hk).1⟩

theorem cells_new (w : World) (cs : List Value) (t : TypeId) : ∀ j u, cs[j]? = some u → (w.alloc (.cells cs.toArray t)).cell? ((⟨w.heap.size, 0, none⟩ : Addr).add j) = some u := by
  intro j u hj
  rw [add_zero_addr, World.cell?_alloc_at _ _ _ _ rfl]
  simpa using hj

theorem own_bytes {B : Nat} {v : Value} {w : World} {bs : List Int} (h : w.ownsRow B 5 1 v bs.length (bs.map (Value.int .u8))) : (convert 22 9 v).run Try.prog w = .ok (.string (bytesStr bs)) w := by
  rcases h.2 with ⟨rfl, hn⟩ | ⟨g, cap, cur, rfl, _⟩
  · obtain rfl := List.eq_nil_of_length_eq_zero hn
    rw [run_convert_bytes_string w 22 9 5 _ _ _ Try.underlying22 Try.underlying5 Try.underlying9]
    rfl
  · rw [run_convert_bytes_string w 22 9 5 _ _ _ Try.underlying22 Try.underlying5 Try.underlying9]
    apply run_bytesToString
    rw [run_loadCells w ⟨g, 0, none⟩ bs.length (fun j => .int .u8 (bs.getD j 0)) (fun j hj => by rw [add_zero_addr]; exact own_cells h j hj), range_map_take _ bs bs.length (Nat.le_refl _)]
    simp

theorem app_1 (acc : List Int) (B : Nat) (v : Value) (r : Int) (w : World) (hB : B ≤ w.heap.size) (hown : w.ownsRow B 5 1 v acc.length (acc.map (Value.int .u8))) (hl : acc.length ≤ 4194304) (h0 : 0 ≤ r) (h1 : r < 128) :
    Calls Try.prog 13 #[v, .int .u32 r] w fun e w' => ∃ v', e = .returned v' ∧ w'.ownsRow B 5 1 v' (acc ++ enc8 r).length ((acc ++ enc8 r).map (Value.int .u8)) ∧ Below B w w' := by
  obtain ⟨i0, hi, hi0, hi1, hi2⟩ := info_parts info5
  have HE : Hid (enc8 r = [r]) := by unfold Hid enc8; rw [if_pos h1]
  go_enter Try.func13, Try.ntmps13
  go_wp2_with (at_builtin; refine wpList_append_own _ rfl _ _ 22 rfl B 5 i0 (.int .u8 0) 1 1 Try.underlying22 hi hi0 hi1 hi2 rfl (by decide) _ _ _ rfl (hown.alloc _) ⟨w.heap.size, 0, none⟩ 1 1 [.int .u8 r] rfl rfl (cells_new w [.int .u8 r] 5) (ints_oneCell .u8 [r]) (by unfold maxLen; omega) (by omega) (by simp; omega) ?_; intro v' w1 hown' hgrow _)
  have R := own_app (news := [r]) rfl hB (Below.refl _ _) hown hown' hgrow
  go_ret
  exact ⟨_, rfl, by rw [HE.out]; exact R.1, R.2⟩

theorem app_2 (acc : List Int) (B : Nat) (v : Value) (r : Int) (w : World) (hB : B ≤ w.heap.size) (hown : w.ownsRow B 5 1 v acc.length (acc.map (Value.int .u8))) (hl : acc.length ≤ 4194304) (h0 : 128 ≤ r) (h1 : r < 2048) :
    Calls Try.prog 13 #[v, .int .u32 r] w fun e w' => ∃ v', e = .returned v' ∧ w'.ownsRow B 5 1 v' (acc ++ enc8 r).length ((acc ++ enc8 r).map (Value.int .u8)) ∧ Below B w w' := by
  obtain ⟨i0, hi, hi0, hi1, hi2⟩ := info_parts info5
  obtain ⟨a0, h0a⟩ : ∃ a, a = 192 + r / 64 := ⟨_, rfl⟩
  have h0b : bits BinOp.or IntKind.u32 192 (r / 64) % 256 = a0 := by rw [h0a]; exact lead2 r h0 h1
  obtain ⟨a1, h1a⟩ : ∃ a, a = 128 + r % 64 := ⟨_, rfl⟩
  have h1b : bits BinOp.or IntKind.u32 128 (bits BinOp.and IntKind.u32 (r) 63) % 256 = a1 := by rw [h1a]; exact trail (r) (by omega) (by omega)
  have HE : Hid (enc8 r = [a0, a1]) := by unfold Hid enc8; rw [if_neg (by omega), if_pos h1]; rw [h0a, h1a]
  clear h0a h1a
  go_enter Try.func13, Try.ntmps13
  go_wp2_with (at_builtin; refine wpList_append_own _ rfl _ _ 22 rfl B 5 i0 (.int .u8 0) 1 1 Try.underlying22 hi hi0 hi1 hi2 rfl (by decide) _ _ _ rfl (hown.alloc _) ⟨w.heap.size, 0, none⟩ 2 2 [.int .u8 a0, .int .u8 a1] rfl rfl (cells_new w [.int .u8 a0, .int .u8 a1] 5) (ints_oneCell .u8 [a0, a1]) (by unfold maxLen; omega) (by omega) (by simp; omega) ?_; intro v' w1 hown' hgrow _)
  have R := own_app (news := [a0, a1]) rfl hB (Below.refl _ _) hown hown' hgrow
  go_ret
  exact ⟨_, rfl, by rw [HE.out]; exact R.1, R.2⟩

theorem app_3 (acc : List Int) (B : Nat) (v : Value) (r : Int) (w : World) (hB : B ≤ w.heap.size) (hown : w.ownsRow B 5 1 v acc.length (acc.map (Value.int .u8))) (hl : acc.length ≤ 4194304) (h0 : 2048 ≤ r) (h1 : r < 65536) :
    Calls Try.prog 13 #[v, .int .u32 r] w fun e w' => ∃ v', e = .returned v' ∧ w'.ownsRow B 5 1 v' (acc ++ enc8 r).length ((acc ++ enc8 r).map (Value.int .u8)) ∧ Below B w w' := by
  obtain ⟨i0, hi, hi0, hi1, hi2⟩ := info_parts info5
  obtain ⟨a0, h0a⟩ : ∃ a, a = 224 + r / 4096 := ⟨_, rfl⟩
  have h0b : bits BinOp.or IntKind.u32 224 (r / 4096) % 256 = a0 := by rw [h0a]; exact lead3 r h0 h1
  obtain ⟨a1, h1a⟩ : ∃ a, a = 128 + r / 64 % 64 := ⟨_, rfl⟩
  have h1b : bits BinOp.or IntKind.u32 128 (bits BinOp.and IntKind.u32 (r / 64) 63) % 256 = a1 := by rw [h1a]; exact trail (r / 64) (by omega) (by omega)
  obtain ⟨a2, h2a⟩ : ∃ a, a = 128 + r % 64 := ⟨_, rfl⟩
  have h2b : bits BinOp.or IntKind.u32 128 (bits BinOp.and IntKind.u32 (r) 63) % 256 = a2 := by rw [h2a]; exact trail (r) (by omega) (by omega)
  have HE : Hid (enc8 r = [a0, a1, a2]) := by unfold Hid enc8; rw [if_neg (by omega), if_neg (by omega), if_pos h1]; rw [h0a, h1a, h2a]
  clear h0a h1a h2a
  go_enter Try.func13, Try.ntmps13
  go_wp2_with (at_builtin; refine wpList_append_own _ rfl _ _ 22 rfl B 5 i0 (.int .u8 0) 1 1 Try.underlying22 hi hi0 hi1 hi2 rfl (by decide) _ _ _ rfl (hown.alloc _) ⟨w.heap.size, 0, none⟩ 3 3 [.int .u8 a0, .int .u8 a1, .int .u8 a2] rfl rfl (cells_new w [.int .u8 a0, .int .u8 a1, .int .u8 a2] 5) (ints_oneCell .u8 [a0, a1, a2]) (by unfold maxLen; omega) (by omega) (by simp; omega) ?_; intro v' w1 hown' hgrow _)
  have R := own_app (news := [a0, a1, a2]) rfl hB (Below.refl _ _) hown hown' hgrow
  go_ret
  exact ⟨_, rfl, by rw [HE.out]; exact R.1, R.2⟩

theorem app_4 (acc : List Int) (B : Nat) (v : Value) (r : Int) (w : World) (hB : B ≤ w.heap.size) (hown : w.ownsRow B 5 1 v acc.length (acc.map (Value.int .u8))) (hl : acc.length ≤ 4194304) (h0 : 65536 ≤ r) (h1 : r < 1114112) :
    Calls Try.prog 13 #[v, .int .u32 r] w fun e w' => ∃ v', e = .returned v' ∧ w'.ownsRow B 5 1 v' (acc ++ enc8 r).length ((acc ++ enc8 r).map (Value.int .u8)) ∧ Below B w w' := by
  obtain ⟨i0, hi, hi0, hi1, hi2⟩ := info_parts info5
  obtain ⟨a0, h0a⟩ : ∃ a, a = 240 + r / 262144 := ⟨_, rfl⟩
  have h0b : bits BinOp.or IntKind.u32 240 (r / 262144) % 256 = a0 := by rw [h0a]; exact lead4 r h0 h1
  obtain ⟨a1, h1a⟩ : ∃ a, a = 128 + r / 4096 % 64 := ⟨_, rfl⟩
  have h1b : bits BinOp.or IntKind.u32 128 (bits BinOp.and IntKind.u32 (r / 4096) 63) % 256 = a1 := by rw [h1a]; exact trail (r / 4096) (by omega) (by omega)
  obtain ⟨a2, h2a⟩ : ∃ a, a = 128 + r / 64 % 64 := ⟨_, rfl⟩
  have h2b : bits BinOp.or IntKind.u32 128 (bits BinOp.and IntKind.u32 (r / 64) 63) % 256 = a2 := by rw [h2a]; exact trail (r / 64) (by omega) (by omega)
  obtain ⟨a3, h3a⟩ : ∃ a, a = 128 + r % 64 := ⟨_, rfl⟩
  have h3b : bits BinOp.or IntKind.u32 128 (bits BinOp.and IntKind.u32 (r) 63) % 256 = a3 := by rw [h3a]; exact trail (r) (by omega) (by omega)
  have HE : Hid (enc8 r = [a0, a1, a2, a3]) := by unfold Hid enc8; rw [if_neg (by omega), if_neg (by omega), if_neg (by omega)]; rw [h0a, h1a, h2a, h3a]
  clear h0a h1a h2a h3a
  go_enter Try.func13, Try.ntmps13
  go_wp2_with (at_builtin; refine wpList_append_own _ rfl _ _ 22 rfl B 5 i0 (.int .u8 0) 1 1 Try.underlying22 hi hi0 hi1 hi2 rfl (by decide) _ _ _ rfl (hown.alloc _) ⟨w.heap.size, 0, none⟩ 4 4 [.int .u8 a0, .int .u8 a1, .int .u8 a2, .int .u8 a3] rfl rfl (cells_new w [.int .u8 a0, .int .u8 a1, .int .u8 a2, .int .u8 a3] 5) (ints_oneCell .u8 [a0, a1, a2, a3]) (by unfold maxLen; omega) (by omega) (by simp; omega) ?_; intro v' w1 hown' hgrow _)
  have R := own_app (news := [a0, a1, a2, a3]) rfl hB (Below.refl _ _) hown hown' hgrow
  go_ret
  exact ⟨_, rfl, by rw [HE.out]; exact R.1, R.2⟩

theorem app_any (acc : List Int) (B : Nat) (v : Value) (r : Int) (w : World) (hB : B ≤ w.heap.size) (hown : w.ownsRow B 5 1 v acc.length (acc.map (Value.int .u8))) (hl : acc.length ≤ 4194304) (h0 : 0 ≤ r) (h1 : r < 1114112) :
    Calls Try.prog 13 #[v, .int .u32 r] w fun e w' => ∃ v', e = .returned v' ∧ w'.ownsRow B 5 1 v' (acc ++ enc8 r).length ((acc ++ enc8 r).map (Value.int .u8)) ∧ Below B w w' := by
  by_cases a1 : r < 128
  · exact app_1 acc B v r w hB hown hl h0 a1
  by_cases a2 : r < 2048
  · exact app_2 acc B v r w hB hown hl (by omega) a2
  by_cases a3 : r < 65536
  · exact app_3 acc B v r w hB hown hl (by omega) a3
  · exact app_4 acc B v r w hB hown hl (by omega) h1
end Go.Proofs.Qxb6002374a
