/- The walk of zzAppendUTF8 once more: it appends the rune's bytes, and no other row turns. -/
import Derived.Test.Qxb6002374aApp
import Derived.Test.Qxb6002374aApart
namespace Go.Proofs.Qxb6002374a
open Go.RowKit

theorem grownBy_after_alloc {w w1 : World} {o : Obj} {row : Option Nat} (h : (w.alloc o).grownBy w1 row) : w.grownBy w1 row :=
  ⟨h.os, h.tape, h.output, by have := h.size; simp at this; omega, fun k hk hr => by rw [h.block k (by simp; omega) hr]; exact Below.heap_alloc w o k hk⟩

theorem apart_after_alloc {w : World} {o : Obj} {v v' : Value} (h : ∀ k, v'.ownBlock = some k → v.ownBlock = some k ∨ (w.alloc o).heap.size ≤ k) : ∀ k, v'.ownBlock = some k → v.ownBlock = some k ∨ w.heap.size ≤ k := by
  intro k hk
  rcases h k hk with h1 | h1
  · exact .inl h1
  · simp at h1; exact .inr (by omega)

theorem app2_1 (acc : List Int) (B : Nat) (v : Value) (r : Int) (w : World) (hB : B ≤ w.heap.size) (hown : w.ownsRow B 5 1 v acc.length (acc.map (Value.int .u8))) (hl : acc.length ≤ 4194304) (h0 : 0 ≤ r) (h1 : r < 128) :
    Calls Try.prog 13 #[v, .int .u32 r] w fun e w' => ∃ v', e = .returned v' ∧ w'.ownsRow B 5 1 v' (acc ++ enc8 r).length ((acc ++ enc8 r).map (Value.int .u8)) ∧ w.grownBy w' v.ownBlock ∧ (∀ k, v'.ownBlock = some k → v.ownBlock = some k ∨ w.heap.size ≤ k) := by
  obtain ⟨i0, hi, hi0, hi1, hi2⟩ := info_parts info5
  have HE : Hid (enc8 r = [r]) := by unfold Hid enc8; rw [if_pos h1]
  go_enter Try.func13, Try.ntmps13
  go_wp2_with (at_builtin; refine wpList_append_apart _ rfl _ _ 22 rfl B 5 i0 (.int .u8 0) 1 1 Try.underlying22 hi hi0 hi1 hi2 rfl (by decide) _ _ _ rfl (hown.alloc _) ⟨w.heap.size, 0, none⟩ 1 1 [.int .u8 r] rfl rfl (cells_new w [.int .u8 r] 5) (ints_oneCell .u8 [r]) (by unfold maxLen; omega) (by omega) (by simp; omega) ?_; intro v' w1 hown' hgrow hap)
  have R := own_app (news := [r]) rfl hB (Below.refl _ _) hown hown' hgrow
  go_ret
  exact ⟨_, rfl, by rw [HE.out]; exact R.1, grownBy_after_alloc hgrow, apart_after_alloc hap⟩

theorem app2_2 (acc : List Int) (B : Nat) (v : Value) (r : Int) (w : World) (hB : B ≤ w.heap.size) (hown : w.ownsRow B 5 1 v acc.length (acc.map (Value.int .u8))) (hl : acc.length ≤ 4194304) (h0 : 128 ≤ r) (h1 : r < 2048) :
    Calls Try.prog 13 #[v, .int .u32 r] w fun e w' => ∃ v', e = .returned v' ∧ w'.ownsRow B 5 1 v' (acc ++ enc8 r).length ((acc ++ enc8 r).map (Value.int .u8)) ∧ w.grownBy w' v.ownBlock ∧ (∀ k, v'.ownBlock = some k → v.ownBlock = some k ∨ w.heap.size ≤ k) := by
  obtain ⟨i0, hi, hi0, hi1, hi2⟩ := info_parts info5
  obtain ⟨a0, h0a⟩ : ∃ a, a = 192 + r / 64 := ⟨_, rfl⟩
  have h0b : bits BinOp.or IntKind.u32 192 (r / 64) % 256 = a0 := by rw [h0a]; exact lead2 r h0 h1
  obtain ⟨a1, h1a⟩ : ∃ a, a = 128 + r % 64 := ⟨_, rfl⟩
  have h1b : bits BinOp.or IntKind.u32 128 (bits BinOp.and IntKind.u32 (r) 63) % 256 = a1 := by rw [h1a]; exact trail (r) (by omega) (by omega)
  have HE : Hid (enc8 r = [a0, a1]) := by unfold Hid enc8; rw [if_neg (by omega), if_pos h1]; rw [h0a, h1a]
  clear h0a h1a
  go_enter Try.func13, Try.ntmps13
  go_wp2_with (at_builtin; refine wpList_append_apart _ rfl _ _ 22 rfl B 5 i0 (.int .u8 0) 1 1 Try.underlying22 hi hi0 hi1 hi2 rfl (by decide) _ _ _ rfl (hown.alloc _) ⟨w.heap.size, 0, none⟩ 2 2 [.int .u8 a0, .int .u8 a1] rfl rfl (cells_new w [.int .u8 a0, .int .u8 a1] 5) (ints_oneCell .u8 [a0, a1]) (by unfold maxLen; omega) (by omega) (by simp; omega) ?_; intro v' w1 hown' hgrow hap)
  have R := own_app (news := [a0, a1]) rfl hB (Below.refl _ _) hown hown' hgrow
  go_ret
  exact ⟨_, rfl, by rw [HE.out]; exact R.1, grownBy_after_alloc hgrow, apart_after_alloc hap⟩

theorem app2_3 (acc : List Int) (B : Nat) (v : Value) (r : Int) (w : World) (hB : B ≤ w.heap.size) (hown : w.ownsRow B 5 1 v acc.length (acc.map (Value.int .u8))) (hl : acc.length ≤ 4194304) (h0 : 2048 ≤ r) (h1 : r < 65536) :
    Calls Try.prog 13 #[v, .int .u32 r] w fun e w' => ∃ v', e = .returned v' ∧ w'.ownsRow B 5 1 v' (acc ++ enc8 r).length ((acc ++ enc8 r).map (Value.int .u8)) ∧ w.grownBy w' v.ownBlock ∧ (∀ k, v'.ownBlock = some k → v.ownBlock = some k ∨ w.heap.size ≤ k) := by
  obtain ⟨i0, hi, hi0, hi1, hi2⟩ := info_parts info5
  obtain ⟨a0, h0a⟩ : ∃ a, a = 224 + r / 4096 := ⟨_, rfl⟩
  have h0b : bits BinOp.or IntKind.u32 224 (r / 4096) % 256 = a0 := by rw [h0a]; exact lead3 r h0 h1
  obtain ⟨a1, h1a⟩ : ∃ a, a = 128 + r / 64 % 64 := ⟨_, rfl⟩
  have h1b : bits BinOp.or IntKind.u32 128 (bits BinOp.and IntKind.u32 (r / 64) 63) % 256 = a1 := by rw [h1a]; exact trail (r / 64) (by omega) (by omega)
  obtain ⟨a2, h2a⟩ : ∃ a, a = 128 + r % 64 := ⟨_, rfl⟩
  have h2b : bits BinOp.or IntKind.u32 128 (bits BinOp.and IntKind.u32 (r) 63) % 256 = a2 := by rw [h2a]; exact trail (r) (by omega) (by omega)
  have HE : Hid (enc8 r = [a0, a1, a2]) := by unfold Hid enc8; rw [if_neg (by omega), if_neg (by omega), if_pos h1]; rw [h0a, h1a, h2a]
  clear h0a h1a h2a
  go_enter Try.func13, Try.ntmps13
  go_wp2_with (at_builtin; refine wpList_append_apart _ rfl _ _ 22 rfl B 5 i0 (.int .u8 0) 1 1 Try.underlying22 hi hi0 hi1 hi2 rfl (by decide) _ _ _ rfl (hown.alloc _) ⟨w.heap.size, 0, none⟩ 3 3 [.int .u8 a0, .int .u8 a1, .int .u8 a2] rfl rfl (cells_new w [.int .u8 a0, .int .u8 a1, .int .u8 a2] 5) (ints_oneCell .u8 [a0, a1, a2]) (by unfold maxLen; omega) (by omega) (by simp; omega) ?_; intro v' w1 hown' hgrow hap)
  have R := own_app (news := [a0, a1, a2]) rfl hB (Below.refl _ _) hown hown' hgrow
  go_ret
  exact ⟨_, rfl, by rw [HE.out]; exact R.1, grownBy_after_alloc hgrow, apart_after_alloc hap⟩

theorem app2_4 (acc : List Int) (B : Nat) (v : Value) (r : Int) (w : World) (hB : B ≤ w.heap.size) (hown : w.ownsRow B 5 1 v acc.length (acc.map (Value.int .u8))) (hl : acc.length ≤ 4194304) (h0 : 65536 ≤ r) (h1 : r < 1114112) :
    Calls Try.prog 13 #[v, .int .u32 r] w fun e w' => ∃ v', e = .returned v' ∧ w'.ownsRow B 5 1 v' (acc ++ enc8 r).length ((acc ++ enc8 r).map (Value.int .u8)) ∧ w.grownBy w' v.ownBlock ∧ (∀ k, v'.ownBlock = some k → v.ownBlock = some k ∨ w.heap.size ≤ k) := by
  obtain ⟨i0, hi, hi0, hi1, hi2⟩ := info_parts info5
  obtain ⟨a0, h0a⟩ : ∃ a, a = 240 + r / 262144 := ⟨_, rfl⟩
  have h0b : bits BinOp.or IntKind.u32 240 (r / 262144) % 256 = a0 := by rw [h0a]; exact lead4 r h0 h1
  obtain ⟨a1, h1a⟩ : ∃ a, a = 128 + r / 4096 % 64 := ⟨_, rfl⟩
  have h1b : bits BinOp.or IntKind.u32 128 (bits BinOp.and IntKind.u32 (r / 4096) 63) % 256 = a1 := by rw [h1a]; exact trail (r / 4096) (by omega) (by omega)
  obtain ⟨a2, h2a⟩ : ∃ a, a = 128 + r / 64 % 64 := ⟨_, rfl⟩
  have h2b : bits BinOp.or IntKind.u32 128 (bits BinOp.and IntKind.u32 (r / 64) 63) % 256 = a2 := by rw [h2a]; exact trail (r / 64) (by omega) (by omega)
  obtain ⟨a3, h3a⟩ : ∃ a, a = 128 + r % 64 := ⟨_, rfl⟩
  have h3b : bits BinOp.or IntKind.u32 128 (bits BinOp.and IntKind.u32 (r) 63) % 256 = a3 := by rw [h3a]; exact trail (r) (by omega) (by omega)
  have HE : Hid (enc8 r = [a0, a1, a2, a3]) := by unfold Hid enc8; rw [if_neg (by omega), if_neg (by omega), if_neg (by omega)]; rw [h0a, h1a, h2a, h3a]
  clear h0a h1a h2a h3a
  go_enter Try.func13, Try.ntmps13
  go_wp2_with (at_builtin; refine wpList_append_apart _ rfl _ _ 22 rfl B 5 i0 (.int .u8 0) 1 1 Try.underlying22 hi hi0 hi1 hi2 rfl (by decide) _ _ _ rfl (hown.alloc _) ⟨w.heap.size, 0, none⟩ 4 4 [.int .u8 a0, .int .u8 a1, .int .u8 a2, .int .u8 a3] rfl rfl (cells_new w [.int .u8 a0, .int .u8 a1, .int .u8 a2, .int .u8 a3] 5) (ints_oneCell .u8 [a0, a1, a2, a3]) (by unfold maxLen; omega) (by omega) (by simp; omega) ?_; intro v' w1 hown' hgrow hap)
  have R := own_app (news := [a0, a1, a2, a3]) rfl hB (Below.refl _ _) hown hown' hgrow
  go_ret
  exact ⟨_, rfl, by rw [HE.out]; exact R.1, grownBy_after_alloc hgrow, apart_after_alloc hap⟩

theorem app2_any (acc : List Int) (B : Nat) (v : Value) (r : Int) (w : World) (hB : B ≤ w.heap.size) (hown : w.ownsRow B 5 1 v acc.length (acc.map (Value.int .u8))) (hl : acc.length ≤ 4194304) (h0 : 0 ≤ r) (h1 : r < 1114112) :
    Calls Try.prog 13 #[v, .int .u32 r] w fun e w' => ∃ v', e = .returned v' ∧ w'.ownsRow B 5 1 v' (acc ++ enc8 r).length ((acc ++ enc8 r).map (Value.int .u8)) ∧ w.grownBy w' v.ownBlock ∧ (∀ k, v'.ownBlock = some k → v.ownBlock = some k ∨ w.heap.size ≤ k) := by
  by_cases a1 : r < 128
  · exact app2_1 acc B v r w hB hown hl h0 a1
  by_cases a2 : r < 2048
  · exact app2_2 acc B v r w hB hown hl (by omega) a2
  by_cases a3 : r < 65536
  · exact app2_3 acc B v r w hB hown hl (by omega) a3
  · exact app2_4 acc B v r w hB hown hl (by omega) h1

/-- Two rows of the call's own, side by side: the bytes that are gathered, and the text that is wanted. -/
structure Two (B : Nat) (w0 w : World) (ev wv : Value) (E W : List Int) : Prop where
  own1 : w.ownsRow B 5 1 ev E.length (E.map (Value.int .u8))
  own2 : w.ownsRow B 5 1 wv W.length (W.map (Value.int .u8))
  below : Below B w0 w
  base : B ≤ w0.heap.size
  apart : ∀ k, ev.ownBlock = some k → wv.ownBlock ≠ some k

theorem Two.enc {B : Nat} {w0 wr w1 : World} {ev wv v' : Value} {E W news : List Int} {m : Nat} {o : Obj} (h : Two B w0 wr ev wv E W) (hm : m = news.length)
    (hown' : w1.ownsRow B 5 1 v' (E.length + m) (E.map (Value.int .u8) ++ news.map (Value.int .u8))) (hgrow : (wr.alloc o).grownBy w1 ev.ownBlock)
    (hap : ∀ k, v'.ownBlock = some k → ev.ownBlock = some k ∨ (wr.alloc o).heap.size ≤ k) : Two B w0 w1 v' wv (E ++ news) W := by
  have R := own_app hm h.base h.below h.own1 hown' hgrow
  refine ⟨R.1, (h.own2.alloc o).kept hgrow ?_, R.2, h.base, fun k hk hw => ?_⟩
  · cases hw : wv.ownBlock with
    | none => exact .inl rfl
    | some k => exact .inr (fun e => h.apart k e.symm hw)
  · rcases hap k hk with h1 | h1
    · exact h.apart k h1 hw
    · have := (h.own2.lt k hw).2
      simp at h1
      omega

theorem Two.want {B : Nat} {w0 wr w1 : World} {ev wv v' : Value} {E W W' : List Int} (h : Two B w0 wr ev wv E W)
    (hown' : w1.ownsRow B 5 1 v' W'.length (W'.map (Value.int .u8))) (hgrow : wr.grownBy w1 wv.ownBlock)
    (hap : ∀ k, v'.ownBlock = some k → wv.ownBlock = some k ∨ wr.heap.size ≤ k) : Two B w0 w1 ev v' E W' := by
  have hs := h.below.size
  have hb := h.base
  refine ⟨h.own1.kept hgrow ?_, hown', h.below.grown hgrow (by omega) (fun k hk => (h.own2.lt k hk).1), h.base, fun k hk hw => ?_⟩
  · cases he : ev.ownBlock with
    | none => exact .inl rfl
    | some k => exact .inr (fun e => h.apart k he e.symm)
  · rcases hap k hw with h1 | h1
    · exact h.apart k hk h1
    · have := (h.own1.lt k hk).2
      omega
end Go.Proofs.Qxb6002374a
