/-
  FnAppendPlacesAgreesWithAppendScaled, walked.
-/
import Derived.Test.Qxb6602909aClone
import Derived.Test.Qxb6602909aValue
namespace Go.Proofs.Qxb6602909a
open Go.RowKit

theorem trim_down (ds : List Int) (h0 : ds.getD 0 0 ≠ 48) : ∀ m, 1 ≤ m → m ≤ ds.length → (∀ j, m ≤ j → j < ds.length → ds.getD j 0 = 48) → ∃ K, Trim ds K := by
  intro m
  induction m with
  | zero => intro h; omega
  | succ m ih =>
    intro _ h2 h3
    by_cases hm : ds.getD m 0 = 48
    · rcases Nat.eq_zero_or_pos m with hz | hz
      · subst hz
        exact absurd hm h0
      · refine ih hz (by omega) (fun j hj1 hj2 => ?_)
        rcases Nat.lt_or_ge m j with h | h
        · exact h3 j h hj2
        · have : j = m := by omega
          rw [this]
          exact hm
    · exact ⟨m + 1, by omega, h2, by simpa using hm, h3⟩

theorem placeText_len {neg : Bool} {whole frac : Int} {T : List Int} (h : PlaceText neg whole frac T) : T.length ≤ 60 := by
  obtain ⟨ds, hd, h⟩ := h
  have hs : (sg neg).length ≤ 1 := by cases neg <;> simp [sg]
  have h2 := hd.2.2.2.1
  rcases h with ⟨_, rfl⟩ | ⟨_, ps, hp, rfl⟩
  · simp; omega
  · have h3 := hp.2.2.1
    simp; omega

theorem bytes21 (a : Option Addr) (n cap : Nat) (b : Bool) (x y : Int) (w : World) (h : n ≤ 1048576) : Calls Try.prog 21 #[.slice a n cap, .bool b, .int .u64 x, .int .u64 y] w fun e w' => e = .returned (.bool true) ∧ w = w' := by
  have h' : ¬ (1048576 : Int) < (n : Int) := by omega
  go_enter Try.func21, Try.ntmps21
  go_wp2
  go_ret
  exact ⟨rfl, rfl⟩

theorem agree_long (a : Option Addr) (n cap : Nat) (b : Bool) (x y : Int) (w : World) (h : 1048576 < n) (hm : n ≤ 9223372036854775807) : Calls Try.prog 8 #[.slice a n cap, .bool b, .int .u64 x, .int .u64 y] w fun e w' => e = .returned (.bool true) ∧ Below w.heap.size w w' := by
  have h' : (1048576 : Int) < (n : Int) := by omega
  go_enter Try.func8, Try.ntmps8
  go_wp2
  go_ret
  exact ⟨rfl, Below.refl _ _⟩

theorem agree_big (a : Option Addr) (n cap : Nat) (b : Bool) (x y : Int) (w : World) (h : n ≤ 1048576) (hy : 10000000000000000 ≤ y) : Calls Try.prog 8 #[.slice a n cap, .bool b, .int .u64 x, .int .u64 y] w fun e w' => e = .returned (.bool true) ∧ Below w.heap.size w w' := by
  have h' : ¬ (1048576 : Int) < (n : Int) := by omega
  go_enter Try.func8, Try.ntmps8
  go_wp2
  go_ret
  exact ⟨rfl, Below.refl _ _⟩

theorem agree_zero (a : Option Addr) (n cap : Nat) (b : Bool) (w : World) (h : n ≤ 1048576) : Calls Try.prog 8 #[.slice a n cap, .bool b, .int .u64 0, .int .u64 0] w fun e w' => e = .returned (.bool true) ∧ Below w.heap.size w w' := by
  have h' : ¬ (1048576 : Int) < (n : Int) := by omega
  go_enter Try.func8, Try.ntmps8
  go_wp2
  go_ret
  exact ⟨rfl, Below.refl _ _⟩

theorem digAt_row {w : World} {bd od : Nat} {ds : List Int} (hb : bd < w.heap.size) (hc : ∀ j, j < ds.length → w.cell? ⟨bd, od + j, none⟩ = some (.int .u8 (ds.getD j 0))) : DigAt w.heap.size w bd od ds :=
  fun _ hbel j hj => (hbel.cell (p := ⟨bd, od + j, none⟩) hb).trans (hc j hj)

set_option maxRecDepth 100000 in
set_option maxHeartbeats 1000000 in
theorem agree_walk (a : Option Addr) (cap : Nat) (L : List Int) (neg : Bool) (whole frac : Int) (w : World) (hr : Row w a L) (hn : a = none → L = []) (hl : L.length ≤ 1048576) (hw0 : 0 ≤ whole) (hw1 : whole < 18446744073709551616) (hf0 : 0 ≤ frac) (hf1 : frac < 10000000000000000) (hpos : ¬ (whole = 0 ∧ frac = 0)) :
    Calls Try.prog 8 #[.slice a L.length cap, .bool neg, .int .u64 whole, .int .u64 frac] w fun e w' => e = .returned (.bool true) ∧ Below w.heap.size w w' := by
  have HC1 := clone_any a cap L w hr hn hl
  have h1 : ¬ (1048576 : Int) < (L.length : Int) := by omega
  have hst : (whole == 0) = false ∨ ((whole == 0) = true ∧ (frac == 0) = false) := by
    by_cases h : whole = 0
    · right
      exact ⟨by simp [h], by simp; intro h2; exact hpos ⟨h, h2⟩⟩
    · left
      simp [h]
  clear hr hn
  rcases hst with st | ⟨st1, st2⟩
  all_goals
    go_enter Try.func8, Try.ntmps8
    go_wp2_with fail
    refine (bytes21 _ _ _ _ _ _ _ hl).mono ?_
    rintro e w' ⟨rfl, rfl⟩
    go_wp2_with fail
    refine HC1.mono ?_
    rintro e w1 ⟨ab, rfl, hnb, hbb, hrb, hbel1⟩
    have HC2 := clone_any ab L.length L w1 hrb hnb hl
    clear HC1
    go_wp2_with fail
    refine HC2.mono ?_
    rintro e w2 ⟨ac, rfl, hnc, hbc, hrc, hbel2⟩
    clear HC2
    have hbw2 : Below w.heap.size w w2 := hbel1.trans (hbel2.mono hbel1.size)
    go_wp2_with fail
    refine (value_any whole frac w2 hw0 hw1 hf0 hf1).mono ?_
    rintro e w3 ⟨ad, cd, V, rfl, hcd, hrd, hV, hbel3⟩
    obtain ⟨hV1, hV2, hV3⟩ := hV.ok hpos
    obtain ⟨K, hK⟩ := trim_down V hV3 V.length hV1 (Nat.le_refl _) (fun j h1 h2 => by omega)
    obtain ⟨bd, od, rfl, hbd, hcell⟩ := hrd.at (by omega)
    have hbw3 : Below w.heap.size w w3 := hbw2.trans (hbel3.mono hbw2.size)
    have hrb3 := (hrb.mono hbel2).mono hbel3
    have hbb3 : ∀ adr, ab = some adr → adr.block < w3.heap.size := fun adr h => Nat.lt_of_lt_of_le (hbb adr h) (Nat.le_trans hbel2.size hbel3.size)
    have HPL := places_any w3.heap.size _ L neg whole frac w3 (Own.of_full hrb3 hnb hbb3) (Nat.le_refl _) (by omega) hw0 hw1 hf0 hf1
    clear hrb hrb3 hbb3 hrd hbb hnb
    go_wp2_with fail
    refine HPL.mono ?_
    rintro e w4 ⟨v4, T, rfl, hown4, hbel4, hT⟩
    have hbw4 : Below w.heap.size w w4 := hbw3.trans (hbel4.mono hbw3.size)
    have hTl := placeText_len hT
    have hTe := agree_law neg hT hV hpos hK
    obtain ⟨a4, c4, hv4, _, _, hr4⟩ := hown4.shape hbel4.size
    have HV4 : Hid (v4 = .slice a4 (L ++ T).length c4) := hv4
    have HTE : Hid (T = scaledText neg V (-16) K) := hTe
    clear hv4 hown4 HPL hTe hT hV
    have hD4 : DigAt w4.heap.size w4 bd od V := digAt_row (Nat.lt_of_lt_of_le hbd hbel4.size) (fun j hj => (hbel4.cell (p := ⟨bd, od + j, none⟩) hbd).trans (hcell j hj))
    have hrc4 := (hrc.mono hbel3).mono hbel4
    have hbc4 : ∀ adr, ac = some adr → adr.block < w4.heap.size := fun adr h => Nat.lt_of_lt_of_le (hbc adr h) (Nat.le_trans hbel3.size hbel4.size)
    have HSC := scaled_any w4.heap.size _ L neg bd od cd V (-16) K w4 (Own.of_full hrc4 hnc hbc4) (Nat.le_refl _) (by omega) (by omega) hcd hV1 hD4 hK (by omega) (by omega)
    clear hrc hrc4 hbc4 hD4 hcell hbc hnc hK
    go_wp2_with fail
    refine HSC.mono ?_
    rintro e w5 ⟨v5, rfl, hown5, hbel5⟩
    obtain ⟨a5, c5, hv5, _, _, hr5⟩ := hown5.shape hbel5.size
    rw [← HTE.out] at hv5 hr5
    have hbw5 : Below w.heap.size w w5 := hbw4.trans (hbel5.mono hbw4.size)
    have HSM := same_any a4 a5 c4 c5 (L ++ T) w5 (hr4.mono hbel5) hr5 (by simp; omega)
    rw [← HV4.out, ← hv5] at HSM
    clear HSC hown5 hr4 hr5 hv5 HV4 HTE
    go_wp2_with fail
    refine HSM.mono ?_
    rintro e w6 ⟨rfl, hbel6⟩
    go_wp2
    go_ret
    exact ⟨rfl, hbw5.trans (hbel6.mono hbw5.size)⟩
end Go.Proofs.Qxb6602909a
