/- The walks of zzBytes and outsBytes: they hand back a bool, a number; nothing turns. -/
import Derived.Test.Qxb6001780aProg
import Derived.Test.Qxb6001780aRec
namespace Go.Proofs.Qxb6001780a
open Go.RowKit

/-- A slice of records: none, or they lie at its address. -/
def Rows3 (w : World) (a : Option Addr) (os : List Rec) : Prop := os.length = 0 ∨ ∃ b off, a = some ⟨b, off, none⟩ ∧ RowAt w b off os

theorem Rows3.at {w : World} {a : Option Addr} {os : List Rec} (h : Rows3 w a os) (hp : 0 < os.length) : ∃ b off, a = some ⟨b, off, none⟩ ∧ RowAt w b off os := by
  rcases h with h | h
  · omega
  · exact h

/-- The call hands back a bool. -/
def RetB (e : Ending) : Prop := ∃ t, e = .returned (.bool t)

theorem bytes6 (os : List Rec) (a : Option Addr) (cap : Nat) (w : World) (hr : Rows3 w a os) :
    Calls Try.prog 6 #[.slice a os.length cap] w fun e w' => RetB e ∧ w = w' := by
  by_cases hbig : 1048576 < os.length
  · go_enter Try.func6, Try.ntmps6
    go_wp2
    go_ret
    exact ⟨⟨_, rfl⟩, rfl⟩
  have HR : Hid (Rows3 w a os) := hr
  clear hr
  go_enter Try.func6, Try.ntmps6
  go_wp2
  go_loop [3, 4] (fun z i => ∃ (k : Nat) (n : Int), k ≤ os.length ∧ 0 ≤ n ∧ n ≤ 1048576 ∧ i = .int .i64 k ∧ z = .int .i64 n) (fun _ i => os.length - (intOf i).toNat)
  case atStart => exact ⟨0, os.length, Nat.zero_le _, by omega, by omega, rfl, rfl⟩
  case round =>
    obtain ⟨k, n, hk, hn0, hn1, rfl, rfl⟩ := hrel
    by_cases hlt : k < os.length
    · obtain ⟨b, off, hae, hrow⟩ := HR.out.at (by omega)
      subst hae
      have hc := (hrow k hlt).2.2
      generalize (os.getD k rec0).err = s at hc
      clear hrow
      by_cases h1 : 1048576 < s.size
      · go_wp2
        go_ret
        exact ⟨⟨_, rfl⟩, rfl⟩
      · by_cases h2 : 1048576 < n + s.size
        · go_wp2
          go_ret
          exact ⟨⟨_, rfl⟩, rfl⟩
        · go_wp2
          go_round
          case rel => exact ⟨k + 1, n + s.size, by omega, by omega, by omega, by go_num, rfl⟩
          case measure => simp [intOf]; omega
    · go_wp2
      go_ret
      exact ⟨⟨_, rfl⟩, rfl⟩

theorem outs7 (os : List Rec) (a : Option Addr) (cap : Nat) (w : World) (hr : Rows3 w a os) (hbig : os.length ≤ 1048576) :
    Calls Try.prog 7 #[.slice a os.length cap] w fun e w' => (∃ t, e = .returned (.int .i64 t)) ∧ w = w' := by
  have HR : Hid (Rows3 w a os) := hr
  clear hr
  go_enter Try.func7, Try.ntmps7
  go_wp2
  go_loop [3, 4] (fun z i => ∃ (k : Nat) (n : Int), k ≤ os.length ∧ i = .int .i64 k ∧ z = .int .i64 n) (fun _ i => os.length - (intOf i).toNat)
  case atStart => exact ⟨0, 0, Nat.zero_le _, rfl, rfl⟩
  case round =>
    obtain ⟨k, n, hk, rfl, rfl⟩ := hrel
    by_cases hlt : k < os.length
    · obtain ⟨b, off, hae, hrow⟩ := HR.out.at (by omega)
      subst hae
      have hc := (hrow k hlt).2.2
      generalize (os.getD k rec0).err = s at hc
      clear hrow
      go_wp2
      · go_ret
        exact ⟨⟨_, rfl⟩, rfl⟩
      · go_round
        case rel => exact ⟨k + 1, _, by omega, by go_num, rfl⟩
        case measure => simp [intOf]; omega
    · go_wp2
      go_ret
      exact ⟨⟨_, rfl⟩, rfl⟩
end Go.Proofs.Qxb6001780a
