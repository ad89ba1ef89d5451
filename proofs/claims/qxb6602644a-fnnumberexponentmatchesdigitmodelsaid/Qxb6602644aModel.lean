import Derived.Test.Qxb6602644aExp
import Derived.Test.Qxb6602644aNum2
namespace Go.Proofs.Qxb6602644a
open Go.RowKit

/-- A text that zzIsExponentText lets by. -/
def ExpText (T : List Int) : Prop := ∃ ds, Digs ds ∧ 0 < ds.length ∧ (T = ds ∨ T = 45 :: ds ∨ T = 43 :: ds)

/-- What zzIsExponentText answers. -/
def ExpEnds (T : List Int) (w : World) (e : Ending) (w' : World) : Prop := ∃ r : Bool, e = .returned (.bool r) ∧ w = w' ∧ (r = true → ExpText T)

theorem digs_of_drop {T : List Int} {s : Nat} (h : ∀ j, s ≤ j → j < T.length → 48 ≤ T.getD j 0 ∧ T.getD j 0 ≤ 57) : Digs (T.drop s) := by
  intro c hc
  obtain ⟨i, hi, rfl⟩ := List.getElem_of_mem hc
  simp at hi
  have := h (s + i) (by omega) (by omega)
  simpa [show s + i < T.length by omega] using this

theorem expText_sign {T : List Int} {x : Int} (hx : x = T.getD 0 0) (hs : x = 45 ∨ x = 43) (hd : Digs (T.drop 1)) (hl : 1 < T.length) : ExpText T := by
  cases T with
  | nil => simp at hl
  | cons c l =>
    simp at hx hd hl
    subst hx
    rcases hs with rfl | rfl
    · exact ⟨l, hd, by omega, Or.inr (Or.inl rfl)⟩
    · exact ⟨l, hd, by omega, Or.inr (Or.inr rfl)⟩

set_option maxHeartbeats 1000000 in
theorem isExp_any (b off cap : Nat) (T : List Int) (w : World) (hle : T.length ≤ cap) (hcap : cap ≤ 9223372036854775807) (hne : 0 < T.length) (hb : ∀ j, 0 ≤ T.getD j 0 ∧ T.getD j 0 ≤ 255)
    (hcell : ∀ j, j < T.length → w.cell? ⟨b, off + j, none⟩ = some (.int .u8 (T.getD j 0))) :
    Calls Try.prog 14 #[.slice (some ⟨b, off, none⟩) T.length cap] w fun e w' => ExpEnds T w e w' := by
  have h0 := hcell 0 hne
  obtain ⟨x, hx⟩ : ∃ x, x = T.getD 0 0 := ⟨_, rfl⟩
  rw [← hx] at h0
  simp only [Nat.add_zero] at h0
  have hx0 : 0 ≤ x ∧ x ≤ 255 := by rw [hx]; exact hb 0
  have hne' : (0 : Int) < (T.length : Int) := by omega
  have hTn : ¬ T = [] := by intro h; simp [h] at hne
  have HX : Hid (x = T.getD 0 0) := hx
  clear hx
  by_cases hs : x = 45 ∨ x = 43
  · have e45 : ((x == 45) = true ∧ (x == 43) = false) ∨ ((x == 45) = false ∧ (x == 43) = true) := by rcases hs with rfl | rfl <;> simp
    by_cases hl1 : T.length ≤ 1
    · have hl1' : (T.length : Int) ≤ 1 := by omega
      rcases e45 with ⟨e1, e2⟩ | ⟨e1, e2⟩
      all_goals
        go_enter Try.func14, Try.ntmps14
        go_wp2
        go_ret
        exact ⟨false, rfl, rfl, fun h => by cases h⟩
    · have hl1' : ¬ (T.length : Int) ≤ 1 := by omega
      rcases e45 with ⟨e1, e2⟩ | ⟨e1, e2⟩
      all_goals
        go_enter Try.func14, Try.ntmps14
        go_wp2
        go_loop [3] (fun i => ∃ k : Nat, 1 ≤ k ∧ k ≤ T.length ∧ i = .int .i64 k ∧ Hid (∀ j, 1 ≤ j → j < k → 48 ≤ T.getD j 0 ∧ T.getD j 0 ≤ 57)) (fun i => T.length - (intOf i).toNat)
        case atStart => exact ⟨1, Nat.le_refl _, by omega, rfl, fun j _ h => by omega⟩
        case round =>
          obtain ⟨k, hk0, hk, rfl, HD⟩ := hrel
          by_cases hlt : k < T.length
          · have hck := hcell k hlt
            obtain ⟨y, hy⟩ : ∃ y, y = T.getD k 0 := ⟨_, rfl⟩
            rw [← hy] at hck
            have hy0 : 0 ≤ y ∧ y ≤ 255 := by rw [hy]; exact hb k
            have HY : Hid (y = T.getD k 0) := hy
            clear hcell hy hb
            by_cases h1 : y < 48
            · go_wp2
              go_ret
              exact ⟨false, rfl, rfl, fun h => by cases h⟩
            · by_cases h2 : 57 < y
              · go_wp2
                go_ret
                exact ⟨false, rfl, rfl, fun h => by cases h⟩
              · go_wp2
                go_round
                case rel =>
                  refine ⟨k + 1, by omega, by omega, by go_num, fun j hj1 hj2 => ?_⟩
                  rcases Nat.lt_or_ge j k with h | h
                  · exact HD.out j hj1 h
                  · have : j = k := by omega
                    rw [this, ← HY.out]
                    omega
                case measure => simp [intOf]; omega
          · have hkl : k = T.length := by omega
            subst hkl
            clear hcell hb
            go_wp2
            go_ret
            exact ⟨true, rfl, rfl, fun _ => expText_sign HX.out hs (digs_of_drop HD.out) (by omega)⟩
  · have e45 : (x == 45) = false := by simp; omega
    have e43 : (x == 43) = false := by simp; omega
    go_enter Try.func14, Try.ntmps14
    go_wp2
    go_loop [3] (fun i => ∃ k : Nat, 0 ≤ k ∧ k ≤ T.length ∧ i = .int .i64 k ∧ Hid (∀ j, 0 ≤ j → j < k → 48 ≤ T.getD j 0 ∧ T.getD j 0 ≤ 57)) (fun i => T.length - (intOf i).toNat)
    case atStart => exact ⟨0, Nat.zero_le _, Nat.zero_le _, rfl, fun j _ h => by omega⟩
    case round =>
      obtain ⟨k, hk0, hk, rfl, HD⟩ := hrel
      by_cases hlt : k < T.length
      · have hck := hcell k hlt
        obtain ⟨y, hy⟩ : ∃ y, y = T.getD k 0 := ⟨_, rfl⟩
        rw [← hy] at hck
        have hy0 : 0 ≤ y ∧ y ≤ 255 := by rw [hy]; exact hb k
        have HY : Hid (y = T.getD k 0) := hy
        clear hcell hy hb
        by_cases h1 : y < 48
        · go_wp2
          go_ret
          exact ⟨false, rfl, rfl, fun h => by cases h⟩
        · by_cases h2 : 57 < y
          · go_wp2
            go_ret
            exact ⟨false, rfl, rfl, fun h => by cases h⟩
          · go_wp2
            go_round
            case rel =>
              refine ⟨k + 1, by omega, by omega, by go_num, fun j hj1 hj2 => ?_⟩
              rcases Nat.lt_or_ge j k with h | h
              · exact HD.out j hj1 h
              · have : j = k := by omega
                rw [this, ← HY.out]
                omega
            case measure => simp [intOf]; omega
      · have hkl : k = T.length := by omega
        subst hkl
        clear hcell hb
        go_wp2
        go_ret
        exact ⟨true, rfl, rfl, fun _ => ⟨T, by have := digs_of_drop (s := 0) HD.out; simpa using this, hne, Or.inl rfl⟩⟩
end Go.Proofs.Qxb6602644a
