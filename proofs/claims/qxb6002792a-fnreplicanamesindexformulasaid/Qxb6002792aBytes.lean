/-
  zzBytes_FnReplicaNamesIndexFormula: it answers a bool and leaves the world alone. And the plain law of the names' places.
-/
import Derived.Test.Qxb6002792aNames
namespace Go.Proofs.Qxb6002792a
open Go.RowKit

def BoolEnds (L S : List ByteArray) (w : World) (e : Ending) (w' : World) : Prop := ∃ r : Bool, e = .returned (.bool r) ∧ w = w' ∧ (r = true → (∀ x ∈ L, x.size ≤ 1048576) ∧ ∀ x ∈ S, x.size ≤ 1048576)

theorem all_of {L : List ByteArray} (h : ∀ j, j < L.length → (L.getD j eS).size ≤ 1048576) : ∀ x ∈ L, x.size ≤ 1048576 := by
  intro x hx
  obtain ⟨i, hi, rfl⟩ := List.getElem_of_mem hx
  have := h i hi
  simpa [List.getD_eq_getElem?_getD, hi] using this

set_option maxRecDepth 100000 in
set_option maxHeartbeats 4000000 in
theorem bytes_any (g r : ByteArray) (aA aS : Option Addr) (cA cS : Nat) (L S : List ByteArray) (w : World) (hrA : SRow w aA L) (hrS : SRow w aS S) (hg : g.size ≤ 9223372036854775807) (hr : r.size ≤ 9223372036854775807) (hl : L.length ≤ 9223372036854775807) (hs : S.length ≤ 9223372036854775807)
    (hxA : ∀ x ∈ L, x.size ≤ 9223372036854775807) (hxS : ∀ x ∈ S, x.size ≤ 9223372036854775807) :
    Calls Try.prog 12 #[.string g, .string r, .slice aA L.length cA, .slice aS S.length cS] w (BoolEnds L S w) := by
  have HA : Hid (SRow w aA L) := hrA
  have HS : Hid (SRow w aS S) := hrS
  have HXA : Hid (∀ x ∈ L, x.size ≤ 9223372036854775807) := hxA
  have HXS : Hid (∀ x ∈ S, x.size ≤ 9223372036854775807) := hxS
  obtain ⟨l, hl'⟩ : ∃ l, l = L.length := ⟨_, rfl⟩
  obtain ⟨s, hs'⟩ : ∃ s, s = S.length := ⟨_, rfl⟩
  have HL : Hid (l = L.length) := hl'
  have HSl : Hid (s = S.length) := hs'
  rw [← hl'] at hl ⊢
  rw [← hs'] at hs ⊢
  clear hrA hrS hxA hxS hl' hs'
  go_enter Try.func12, Try.ntmps12
  go_wp2
  all_goals (try (go_ret; exact ⟨false, rfl, rfl, fun h => by cases h⟩))
  go_loop [9, 10] (fun z i => ∃ (k : Nat) (N : Int), k ≤ l ∧ i = .int .i64 k ∧ z = .int .i64 N ∧ 0 ≤ N ∧ N ≤ 1048576 ∧ Hid (∀ j, j < k → (L.getD j eS).size ≤ 1048576)) (fun _ i => l - (intOf i).toNat)
  case atStart => exact ⟨0, _, Nat.zero_le _, rfl, rfl, by omega, by omega, fun j hj => by omega⟩
  case round =>
    obtain ⟨k, N, hk, rfl, rfl, hN0, hN1, HZ⟩ := hrel
    by_cases hlt : k < l
    · obtain ⟨b, off, hb, _, hc⟩ := HA.out.at (by rw [← HL.out]; omega)
      have hkL : k < L.length := by rw [← HL.out]; exact hlt
      have hck := hc k hkL
      obtain ⟨x, hx⟩ : ∃ x, x = L.getD k eS := ⟨_, rfl⟩
      rw [← hx] at hck
      have hxs : x.size ≤ 9223372036854775807 := HXA.out x (by rw [hx]; simp [List.getD_eq_getElem?_getD, hkL])
      have HX : Hid (x = L.getD k eS) := hx
      subst hb
      clear hx hc
      go_wp2
      all_goals (try (go_ret; exact ⟨false, rfl, rfl, fun h => by cases h⟩))
      go_round
      case rel =>
        refine ⟨k + 1, _, by omega, by go_num, rfl, by omega, by omega, fun j hj => ?_⟩
        rcases Nat.lt_or_ge j k with h | h
        · exact HZ.out j h
        · have : j = k := by omega
          rw [this, ← HX.out]
          omega
      case measure => simp [intOf]; omega
    · have HZA : Hid (∀ j, j < l → (L.getD j eS).size ≤ 1048576) := fun j hj => HZ.out j (by omega)
      clear HZ
      go_wp2
      all_goals (try (go_ret; exact ⟨false, rfl, rfl, fun h => by cases h⟩))
      go_loop [9, 11] (fun z i => ∃ (k : Nat) (N : Int), k ≤ s ∧ i = .int .i64 k ∧ z = .int .i64 N ∧ 0 ≤ N ∧ N ≤ 1048576 ∧ Hid (∀ j, j < k → (S.getD j eS).size ≤ 1048576)) (fun _ i => s - (intOf i).toNat)
      case atStart => exact ⟨0, _, Nat.zero_le _, rfl, rfl, by omega, by omega, fun j hj => by omega⟩
      case round =>
        obtain ⟨k2, N2, hk2, rfl, rfl, hN20, hN21, HZ2⟩ := hrel
        by_cases hlt2 : k2 < s
        · obtain ⟨b, off, hb, _, hc⟩ := HS.out.at (by rw [← HSl.out]; omega)
          have hkS : k2 < S.length := by rw [← HSl.out]; exact hlt2
          have hck := hc k2 hkS
          obtain ⟨x, hx⟩ : ∃ x, x = S.getD k2 eS := ⟨_, rfl⟩
          rw [← hx] at hck
          have hxs : x.size ≤ 9223372036854775807 := HXS.out x (by rw [hx]; simp [List.getD_eq_getElem?_getD, hkS])
          have HX : Hid (x = S.getD k2 eS) := hx
          subst hb
          clear hx hc
          go_wp2
          all_goals (try (go_ret; exact ⟨false, rfl, rfl, fun h => by cases h⟩))
          go_round
          case rel =>
            refine ⟨k2 + 1, _, by omega, by go_num, rfl, by omega, by omega, fun j hj => ?_⟩
            rcases Nat.lt_or_ge j k2 with h | h
            · exact HZ2.out j h
            · have : j = k2 := by omega
              rw [this, ← HX.out]
              omega
          case measure => simp [intOf]; omega
        · go_wp2
          go_ret
          exact ⟨true, rfl, rfl, fun _ => ⟨all_of fun j hj => HZA.out j (by rw [HL.out]; exact hj), all_of fun j hj => HZ2.out j (by rw [← HSl.out] at hj; omega)⟩⟩

theorem getD_post {A : List ByteArray} (B : List ByteArray) {j : Nat} (h : A.length ≤ j) : (A ++ B).getD j eS = B.getD (j - A.length) eS := by
  simp [List.getD_eq_getElem?_getD, List.getElem?_append_right h]

theorem flat_getD (bs : List ByteArray) (ho : 1 ≤ bs.length) : ∀ (S : List ByteArray) (k : Nat), k < S.length * bs.length →
    (S.flatMap (fun s => bs.map (cat s))).getD k eS = cat (S.getD (k / bs.length) eS) (bs.getD (k % bs.length) eS) := by
  intro S
  induction S with
  | nil => intro k hk; simp at hk
  | cons s S ih =>
    intro k hk
    rw [List.flatMap_cons]
    rcases Nat.lt_or_ge k bs.length with h | h
    · rw [getD_pre _ (by simpa using h), Nat.div_eq_of_lt h, Nat.mod_eq_of_lt h]
      simp [List.getD_eq_getElem?_getD, h]
    · rw [getD_post _ (by simpa using h)]
      simp only [List.length_map]
      rw [ih (k - bs.length) (by rw [List.length_cons, Nat.add_mul] at hk; omega)]
      have e1 : k / bs.length = (k - bs.length) / bs.length + 1 := by
        rw [Nat.div_eq_sub_div (by omega) h]
      have e2 : k % bs.length = (k - bs.length) % bs.length := Nat.mod_eq_sub_mod h
      rw [e1, e2]
      simp

theorem names_lo (bs S : List ByteArray) {k : Nat} (ho : 1 ≤ bs.length) (h : k / bs.length = 0) : (namesOf bs S).getD k eS = bs.getD (k % bs.length) eS := by
  have hk : k < bs.length := by
    rcases Nat.lt_or_ge k bs.length with h1 | h1
    · exact h1
    · have := Nat.div_pos h1 (by omega)
      omega
  unfold namesOf
  rw [getD_pre _ hk, Nat.mod_eq_of_lt hk]
theorem names_hi (bs S : List ByteArray) {k : Nat} (ho : 1 ≤ bs.length) (h : 0 < k / bs.length) (hk : k < bs.length + S.length * bs.length) : (namesOf bs S).getD k eS = cat (S.getD (k / bs.length - 1) eS) (bs.getD (k % bs.length) eS) := by
  have hge : bs.length ≤ k := by
    rcases Nat.lt_or_ge k bs.length with h1 | h1
    · rw [Nat.div_eq_of_lt h1] at h
      omega
    · exact h1
  unfold namesOf
  rw [getD_post _ hge, flat_getD bs ho S _ (by omega)]
  have e1 : k / bs.length = (k - bs.length) / bs.length + 1 := by
    rw [Nat.div_eq_sub_div (by omega) hge]
  have e2 : k % bs.length = (k - bs.length) % bs.length := Nat.mod_eq_sub_mod hge
  rw [e1, e2]
  simp
theorem names_len (bs S : List ByteArray) : (namesOf bs S).length = bs.length + S.length * bs.length := by
  unfold namesOf
  rw [List.length_append, flat_len]

theorem ZZnames_any {g r : ByteArray} {aA aS : Option Addr} {n1 c1 n2 c2 : Nat} {N : List ByteArray} {w : World}
    (H : Calls Try.prog 18 #[.string g, .string r, .slice aA n1 c1, .slice aS n2 c2] w (NamesEnds N w)) :
    Calls Try.prog 14 #[.string g, .string r, .slice aA n1 c1, .slice aS n2 c2] w (NamesEnds N w) := by
  go_enter Try.func14, Try.ntmps14
  go_wp2_with fail
  refine H.mono ?_
  rintro e w' ⟨g', cap, rfl, h⟩
  go_wp2
  go_ret
  exact ⟨g', cap, rfl, h⟩
end Go.Proofs.Qxb6002792a
