import Derived.Test.Qxb6602644aRows
import Derived.WalkKit
import Derived.WalkSpells
import Derived.WalkLawsBesides
namespace Go.Proofs.Qxb6602644a
open Go.RowKit

/-- A byte that is a hexadecimal digit. -/
def HexD (c : Int) : Prop := (48 ≤ c ∧ c ≤ 57) ∨ (97 ≤ c ∧ c ≤ 102) ∨ (65 ≤ c ∧ c ≤ 70)
/-- What stands at place i of a UUID's text. -/
def Good (i : Nat) (c : Int) : Prop := (i = 8 ∨ i = 13 ∨ i = 18 ∨ i = 23) ∧ c = 45 ∨ (i ≠ 8 ∧ i ≠ 13 ∧ i ≠ 18 ∧ i ≠ 23) ∧ HexD c

set_option maxHeartbeats 1000000 in
theorem isUUID_good (s : ByteArray) (w : World) (hs : s.size = 36) (hg : ∀ k, (h : k < s.size) → Good k (s[k].toNat : Int)) :
    Calls Try.prog 18 #[.string s] w fun e w' => e = .returned (.bool true) ∧ w = w' := by
  have hs1 : (s.size : Int) = 36 := by omega
  have HS : Hid (s.size = 36) := hs
  clear hs
  go_enter Try.func18, Try.ntmps18
  go_wp2
  go_loop [10] (fun i => ∃ k : Nat, k ≤ 36 ∧ i = .int .i64 k) (fun i => 36 - (intOf i).toNat)
  case atStart => exact ⟨0, Nat.zero_le _, rfl⟩
  case round =>
    obtain ⟨k, hk, rfl⟩ := hrel
    by_cases hlt : k < 36
    · have hlt' : k < s.size := by rw [HS.out]; exact hlt
      have g := hg k hlt'
      rcases g with ⟨hi, hc⟩ | ⟨hi, hc⟩
      · rcases hi with rfl | rfl | rfl | rfl
        all_goals
          go_wp2
          go_round
          case rel => first | exact ⟨9, by omega, rfl⟩ | exact ⟨14, by omega, rfl⟩ | exact ⟨19, by omega, rfl⟩ | exact ⟨24, by omega, rfl⟩
          case measure => simp [intOf]
      · obtain ⟨h8, h13, h18, h23⟩ := hi
        rcases hc with hc | hc | hc
        all_goals
          go_wp2
          go_round
          case rel => exact ⟨k + 1, by omega, by go_num⟩
          case measure => simp [intOf]; omega
    · go_wp2
      go_ret
      exact ⟨rfl, rfl⟩

theorem ZZisUUID_good (s : ByteArray) (w : World) (hs : s.size = 36) (hg : ∀ k, (h : k < s.size) → Good k (s[k].toNat : Int)) :
    Calls Try.prog 9 #[.string s] w fun e w' => e = .returned (.bool true) ∧ w = w' := by
  have H := isUUID_good s w hs hg
  clear hs hg
  go_enter Try.func9, Try.ntmps9
  go_wp2_with (go_at_call 18; refine H.mono ?_; rintro e w' ⟨rfl, rfl⟩)
  go_ret
  exact ⟨rfl, rfl⟩

/-- 'zzHexDigit' at a number below 16 gives a hexadecimal digit. -/
theorem hexDigit_any (v : Int) (u : Bool) (w : World) (h0 : 0 ≤ v) (h1 : v < 16) :
    Calls Try.prog 11 #[.int .u8 v, .bool u] w fun e w' => ∃ c : Int, e = .returned (.int .u8 c) ∧ HexD c ∧ w = w' := by
  by_cases h : v < 10
  · go_enter Try.func11, Try.ntmps11
    go_wp2
    go_ret
    exact ⟨_, rfl, by unfold HexD; omega, rfl⟩
  · cases u
    all_goals
      go_enter Try.func11, Try.ntmps11
      go_wp2
      go_ret
      exact ⟨_, rfl, by unfold HexD; omega, rfl⟩
end Go.Proofs.Qxb6602644a
