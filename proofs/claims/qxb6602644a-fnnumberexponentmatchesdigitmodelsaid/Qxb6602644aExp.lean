import Derived.Test.Qxb6602644aRows
import Derived.Test.Qxb6602644aNum
import Derived.WalkKit
import Derived.WalkSpells
import Derived.WalkLawsBesides
import Derived.BigQuiet
namespace Go.Proofs.Qxb6602644a
open Go.RowKit

/-- What numberExponent answers: the number with its sign, or nought and false beyond the bound. -/
def Answers (sgn : Int) (ds : List Int) (e : Ending) : Prop :=
  (num ds ≤ 1073741822 ∧ e = .returned (.tuple #[.int .i64 (sgn * num ds), .bool true])) ∨ (1073741822 < num ds ∧ e = .returned (.tuple #[.int .i64 0, .bool false]))

set_option maxHeartbeats 1000000 in
theorem numExp_plain (b off cap : Nat) (ds : List Int) (w : World) (hle : ds.length ≤ cap) (hcap : cap ≤ 9223372036854775807) (hd : Digs ds) (hne : 0 < ds.length)
    (hcell : ∀ j, j < ds.length → w.cell? ⟨b, off + j, none⟩ = some (.int .u8 (ds.getD j 0))) :
    Calls Try.prog 21 #[.slice (some ⟨b, off, none⟩) ds.length cap] w fun e w' => Answers 1 ds e ∧ Below w.heap.size w w' := by
  have h0 := hcell 0 hne
  have hx0 := hd.getD hne
  obtain ⟨x, hx⟩ : ∃ x, x = ds.getD 0 0 := ⟨_, rfl⟩
  rw [← hx] at h0 hx0
  simp only [Nat.add_zero] at h0
  have e45 : (x == 45) = false := by simp; omega
  have e43 : (x == 43) = false := by simp; omega
  have hne' : (0 : Int) < (ds.length : Int) := by omega
  clear hx
  go_enter Try.func21, Try.ntmps21
  go_wp2
  go_loop [5, 21] (fun n i => ∃ k : Nat, k ≤ ds.length ∧ i = .int .i64 k ∧ n = .int .i64 (num (ds.take k)) ∧ num (ds.take k) ≤ 1073741822) (fun _ i => ds.length - (intOf i).toNat)
  case atStart => exact ⟨0, Nat.zero_le _, rfl, rfl, by simp [num]⟩
  case round =>
    obtain ⟨k, hk, rfl, rfl, hM⟩ := hrel
    have hn0 := num_nonneg _ (hd.take k)
    by_cases hlt : k < ds.length
    · have hck := hcell k hlt
      have hxk := hd.getD hlt
      obtain ⟨y, hy⟩ : ∃ y, y = ds.getD k 0 := ⟨_, rfl⟩
      have HS : Hid (num (ds.take (k + 1)) = num (ds.take k) * 10 + (y - 48)) := by rw [hy]; exact num_take_succ ds k hlt
      rw [← hy] at hck hxk
      obtain ⟨N, hN⟩ : ∃ N, N = num (ds.take k) := ⟨_, rfl⟩
      rw [← hN] at hM hn0 HS
      simp only [← hN]
      clear hcell hy hN
      by_cases hbig : 1073741822 < N * 10 + (y - 48)
      · go_wp2
        go_ret2
        refine ⟨Or.inr ⟨?_, rfl⟩, Below.refl _ _⟩
        have h1 := num_take_le ds hd (k + 1)
        have h2 := HS.out
        omega
      · go_wp2
        go_round
        case rel => exact ⟨k + 1, by omega, by go_num, by rw [HS.out], by rw [HS.out]; omega⟩
        case measure => simp [intOf]; omega
    · have hkl : k = ds.length := by omega
      subst hkl
      rw [List.take_length] at hM hn0
      go_wp2
      go_ret2
      exact ⟨Or.inl ⟨hM, by simp⟩, Below.refl _ _⟩

set_option maxHeartbeats 1000000 in
theorem numExp_plus (b off cap : Nat) (ds : List Int) (w : World) (hle : ds.length + 1 ≤ cap) (hcap : cap ≤ 9223372036854775807) (hd : Digs ds) (hne : 0 < ds.length)
    (hc0 : w.cell? ⟨b, off, none⟩ = some (.int .u8 43))
    (hcell : ∀ j, j < ds.length → w.cell? ⟨b, off + 1 + j, none⟩ = some (.int .u8 (ds.getD j 0))) :
    Calls Try.prog 21 #[.slice (some ⟨b, off, none⟩) (ds.length + 1) cap] w fun e w' => Answers 1 ds e ∧ Below w.heap.size w w' := by
  have hne' : (0 : Int) < ((ds.length + 1 : Nat) : Int) := by omega
  have hc1 : ¬ cap = 1 := by omega
  go_enter Try.func21, Try.ntmps21
  go_wp2
  go_loop [5, 21] (fun n i => ∃ k : Nat, k ≤ ds.length ∧ i = .int .i64 k ∧ n = .int .i64 (num (ds.take k)) ∧ num (ds.take k) ≤ 1073741822) (fun _ i => ds.length - (intOf i).toNat)
  case atStart => exact ⟨0, Nat.zero_le _, rfl, rfl, by simp [num]⟩
  case round =>
    obtain ⟨k, hk, rfl, rfl, hM⟩ := hrel
    have hn0 := num_nonneg _ (hd.take k)
    by_cases hlt : k < ds.length
    · have hck := hcell k hlt
      have hxk := hd.getD hlt
      obtain ⟨y, hy⟩ : ∃ y, y = ds.getD k 0 := ⟨_, rfl⟩
      have HS : Hid (num (ds.take (k + 1)) = num (ds.take k) * 10 + (y - 48)) := by rw [hy]; exact num_take_succ ds k hlt
      rw [← hy] at hck hxk
      obtain ⟨N, hN⟩ : ∃ N, N = num (ds.take k) := ⟨_, rfl⟩
      rw [← hN] at hM hn0 HS
      simp only [← hN]
      clear hcell hy hN
      by_cases hbig : 1073741822 < N * 10 + (y - 48)
      · go_wp2
        go_ret2
        refine ⟨Or.inr ⟨?_, rfl⟩, Below.refl _ _⟩
        have h1 := num_take_le ds hd (k + 1)
        have h2 := HS.out
        omega
      · go_wp2
        go_round
        case rel => exact ⟨k + 1, by omega, by go_num, by rw [HS.out], by rw [HS.out]; omega⟩
        case measure => simp [intOf]; omega
    · have hkl : k = ds.length := by omega
      subst hkl
      rw [List.take_length] at hM hn0
      go_wp2
      go_ret2
      exact ⟨Or.inl ⟨hM, by simp⟩, Below.refl _ _⟩

set_option maxHeartbeats 1000000 in
theorem numExp_minus (b off cap : Nat) (ds : List Int) (w : World) (hle : ds.length + 1 ≤ cap) (hcap : cap ≤ 9223372036854775807) (hd : Digs ds) (hne : 0 < ds.length)
    (hc0 : w.cell? ⟨b, off, none⟩ = some (.int .u8 45))
    (hcell : ∀ j, j < ds.length → w.cell? ⟨b, off + 1 + j, none⟩ = some (.int .u8 (ds.getD j 0))) :
    Calls Try.prog 21 #[.slice (some ⟨b, off, none⟩) (ds.length + 1) cap] w fun e w' => Answers (-1) ds e ∧ Below w.heap.size w w' := by
  have hne' : (0 : Int) < ((ds.length + 1 : Nat) : Int) := by omega
  have hc1 : ¬ cap = 1 := by omega
  go_enter Try.func21, Try.ntmps21
  go_wp2
  go_quiet (fail)
  go_wp2
  go_loop [5, 21] (fun n i => ∃ k : Nat, k ≤ ds.length ∧ i = .int .i64 k ∧ n = .int .i64 (num (ds.take k)) ∧ num (ds.take k) ≤ 1073741822) (fun _ i => ds.length - (intOf i).toNat)
  case atStart => exact ⟨0, Nat.zero_le _, rfl, rfl, by simp [num]⟩
  case round =>
    obtain ⟨k, hk, rfl, rfl, hM⟩ := hrel
    have hn0 := num_nonneg _ (hd.take k)
    by_cases hlt : k < ds.length
    · have hck := hcell k hlt
      have hxk := hd.getD hlt
      obtain ⟨y, hy⟩ : ∃ y, y = ds.getD k 0 := ⟨_, rfl⟩
      have HS : Hid (num (ds.take (k + 1)) = num (ds.take k) * 10 + (y - 48)) := by rw [hy]; exact num_take_succ ds k hlt
      rw [← hy] at hck hxk
      obtain ⟨N, hN⟩ : ∃ N, N = num (ds.take k) := ⟨_, rfl⟩
      rw [← hN] at hM hn0 HS
      simp only [← hN]
      clear hcell hy hN
      by_cases hbig : 1073741822 < N * 10 + (y - 48)
      · go_wp2
        go_ret2
        refine ⟨Or.inr ⟨?_, rfl⟩, below_drewN (Below.refl _ _) nq⟩
        have h1 := num_take_le ds hd (k + 1)
        have h2 := HS.out
        omega
      · go_wp2
        go_round
        case rel => exact ⟨k + 1, by omega, by go_num, by rw [HS.out], by rw [HS.out]; omega⟩
        case measure => simp [intOf]; omega
    · have hkl : k = ds.length := by omega
      subst hkl
      rw [List.take_length] at hM hn0
      go_wp2
      go_ret2
      exact ⟨Or.inl ⟨hM, by simp⟩, below_drewN (Below.refl _ _) nq⟩

theorem ZZnumExp {b off cap n : Nat} {sgn : Int} {ds : List Int} {w : World}
    (H : Calls Try.prog 21 #[.slice (some ⟨b, off, none⟩) n cap] w fun e w' => Answers sgn ds e ∧ Below w.heap.size w w') :
    Calls Try.prog 15 #[.slice (some ⟨b, off, none⟩) n cap] w fun e w' => Answers sgn ds e ∧ Below w.heap.size w w' := by
  go_enter Try.func15, Try.ntmps15
  go_wp2_with fail
  refine H.mono ?_
  rintro e w' ⟨ha, hb⟩
  rcases ha with ⟨h1, rfl⟩ | ⟨h1, rfl⟩
  · go_wp2
    go_ret2
    exact ⟨Or.inl ⟨h1, rfl⟩, hb⟩
  · go_wp2
    go_ret2
    exact ⟨Or.inr ⟨h1, rfl⟩, hb⟩
end Go.Proofs.Qxb6602644a
