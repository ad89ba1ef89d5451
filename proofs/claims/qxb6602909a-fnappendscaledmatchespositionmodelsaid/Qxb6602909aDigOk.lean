/-
  zzDigitsOK_dB1 and zzBytes_FnAppendScaledMatchesPositionModel, by their contracts.
-/
import Derived.Test.Qxb6602909aBase
import Derived.Test.Qxb6602909aNum
namespace Go.Proofs.Qxb6602909a
open Go.RowKit

/-- Digits without a leading nought. -/
def OkDigs (ds : List Int) : Prop := Digs ds ∧ 1 ≤ ds.length ∧ ds.getD 0 0 ≠ 48
/-- What zzDigitsOK answers. -/
def OkEnds (ds : List Int) (w : World) (e : Ending) (w' : World) : Prop := ∃ r : Bool, e = .returned (.bool r) ∧ w = w' ∧ (r = true → OkDigs ds)

theorem okDigs_of {ds : List Int} {x : Int} (hx : x = ds.getD 0 0) (h1 : 49 ≤ x) (h2 : x ≤ 57) (hl : 1 ≤ ds.length) (h : ∀ j, 1 ≤ j → j < ds.length → 48 ≤ ds.getD j 0 ∧ ds.getD j 0 ≤ 57) : OkDigs ds := by
  refine ⟨fun c hc => ?_, hl, by rw [← hx]; omega⟩
  obtain ⟨i, hi, rfl⟩ := List.getElem_of_mem hc
  have e : ds[i] = ds.getD i 0 := by simp [hi]
  rw [e]
  rcases Nat.eq_zero_or_pos i with h0 | h0
  · subst h0
    rw [← hx]
    omega
  · exact h i h0 hi

theorem digOk_empty (a : Option Addr) (cap : Nat) (w : World) : Calls Try.prog 10 #[.slice a 0 cap] w (OkEnds [] w) := by
  go_enter Try.func10, Try.ntmps10
  go_wp2
  go_ret
  exact ⟨false, rfl, rfl, fun h => by cases h⟩

set_option maxHeartbeats 1000000 in
theorem digOk_any (b off cap : Nat) (ds : List Int) (w : World) (hl : ds.length ≤ 9223372036854775807) (hne : 1 ≤ ds.length) (hb : ∀ j, 0 ≤ ds.getD j 0 ∧ ds.getD j 0 ≤ 255)
    (hcell : ∀ j, j < ds.length → w.cell? ⟨b, off + j, none⟩ = some (.int .u8 (ds.getD j 0))) :
    Calls Try.prog 10 #[.slice (some ⟨b, off, none⟩) ds.length cap] w (OkEnds ds w) := by
  have h0 := hcell 0 (by omega)
  obtain ⟨x, hx⟩ : ∃ x, x = ds.getD 0 0 := ⟨_, rfl⟩
  rw [← hx] at h0
  simp only [Nat.add_zero] at h0
  have hx0 : 0 ≤ x ∧ x ≤ 255 := by rw [hx]; exact hb 0
  have HX : Hid (x = ds.getD 0 0) := hx
  obtain ⟨n, hn⟩ : ∃ n, n = ds.length := ⟨_, rfl⟩
  have HN : Hid (n = ds.length) := hn
  rw [← hn] at hl hne hcell
  rw [← hn]
  have hnI : ((n : Int) == 0) = false := by simp; omega
  have hnI2 : (0 : Int) < (n : Int) := by omega
  have HB : Hid (∀ j, 0 ≤ ds.getD j 0 ∧ ds.getD j 0 ≤ 255) := hb
  have HC : Hid (∀ j, j < n → w.cell? ⟨b, off + j, none⟩ = some (.int .u8 (ds.getD j 0))) := hcell
  clear hx hn hb hcell
  by_cases h1 : x < 49
  · have d1 : decide (x < 49) = true := by simp [h1]
    go_enter Try.func10, Try.ntmps10
    go_wp2
    go_ret
    exact ⟨false, rfl, rfl, fun h => by cases h⟩
  · by_cases h2 : 57 < x
    · have d1 : decide (x < 49) = false := by simp; omega
      have d2 : decide (57 < x) = true := by simp [h2]
      go_enter Try.func10, Try.ntmps10
      go_wp2
      go_ret
      exact ⟨false, rfl, rfl, fun h => by cases h⟩
    · have d1 : decide (x < 49) = false := by simp; omega
      have d2 : decide (57 < x) = false := by simp; omega
      go_enter Try.func10, Try.ntmps10
      go_wp2
      go_loop [3] (fun i => ∃ k : Nat, 1 ≤ k ∧ k ≤ n ∧ i = .int .i64 k ∧ Hid (∀ j, 1 ≤ j → j < k → 48 ≤ ds.getD j 0 ∧ ds.getD j 0 ≤ 57)) (fun i => n - (intOf i).toNat)
      case atStart => exact ⟨1, Nat.le_refl _, hne, rfl, fun j _ h => by omega⟩
      case round =>
        obtain ⟨k, hk0, hk, rfl, HD⟩ := hrel
        by_cases hlt : k < n
        · have hck := HC.out k hlt
          obtain ⟨y, hy⟩ : ∃ y, y = ds.getD k 0 := ⟨_, rfl⟩
          rw [← hy] at hck
          have hy0 : 0 ≤ y ∧ y ≤ 255 := by rw [hy]; exact HB.out k
          have HY : Hid (y = ds.getD k 0) := hy
          clear hy
          by_cases h3 : y < 48
          · go_wp2
            go_ret
            exact ⟨false, rfl, rfl, fun h => by cases h⟩
          · by_cases h4 : 57 < y
            · go_wp2
              go_ret
              exact ⟨false, rfl, rfl, fun h => by cases h⟩
            · go_wp2
              go_round
              case rel =>
                refine ⟨k + 1, by omega, by omega, by go_num, fun j hj1 hj2 => ?_⟩
                rcases Nat.lt_or_ge j k with h | h
                · exact HD.out j hj1 h
                · have : j = k := by omega
                  rw [this, ← HY.out]
                  omega
              case measure => simp [intOf]; omega
        · have hkl : k = n := by omega
          subst hkl
          go_wp2
          go_ret
          exact ⟨true, rfl, rfl, fun _ => okDigs_of HX.out (by omega) (by omega) (by rw [← HN.out]; exact hne) (by rw [← HN.out]; exact HD.out)⟩

theorem bytes9 (a1 a2 : Option Addr) (n1 n2 c1 c2 : Nat) (b : Bool) (e : Int) (w : World) (h : n1 + n2 ≤ 1048576) : Calls Try.prog 9 #[.slice a1 n1 c1, .bool b, .slice a2 n2 c2, .int .i64 e] w fun e w' => e = .returned (.bool true) ∧ w = w' := by
  have h1 : ¬ (1048576 : Int) < (n1 : Int) := by omega
  have h2 : ¬ (1048576 : Int) < (n2 : Int) := by omega
  have h3 : ¬ (1048576 : Int) < (n1 : Int) + (n2 : Int) := by omega
  go_enter Try.func9, Try.ntmps9
  go_wp2
  go_ret
  exact ⟨rfl, rfl⟩
end Go.Proofs.Qxb6602909a
