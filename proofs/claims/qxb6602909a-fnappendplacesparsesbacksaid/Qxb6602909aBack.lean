/-
  FnAppendPlacesParsesBack, walked.
-/
import Derived.Test.Qxb6602909aClone
import Derived.Test.Qxb6602909aPlaces
import Derived.Test.Qxb6602909aParse
namespace Go.Proofs.Qxb6602909a
open Go.RowKit

theorem getD_mid (A : List Int) (c : Int) (B : List Int) : (A ++ c :: B).getD A.length 0 = c := by simp
theorem getD_left {A : List Int} (B : List Int) {j : Nat} (h : j < A.length) : (A ++ B).getD j 0 = A.getD j 0 := by
  simp [List.getD_eq_getElem?_getD, List.getElem?_append_left h]
theorem getD_right (A B : List Int) (j : Nat) : (A ++ B).getD (A.length + j) 0 = B.getD j 0 := by
  simp [List.getD_eq_getElem?_getD, List.getElem?_append_right]

theorem PlaceText.len {neg : Bool} {whole frac : Int} {T : List Int} (h : PlaceText neg whole frac T) : 1 ≤ T.length ∧ T.length ≤ 60 := by
  obtain ⟨ds, hd, h⟩ := h
  have hs : (sg neg).length ≤ 1 := by cases neg <;> simp [sg]
  have h1 := hd.2.2.1
  have h2 := hd.2.2.2.1
  rcases h with ⟨_, rfl⟩ | ⟨_, ps, hp, rfl⟩
  · simp; omega
  · have h3 := hp.2.2.1
    simp; omega

theorem parse_any (a : Option Addr) (cap : Nat) (T : List Int) (neg : Bool) (whole frac : Int) (w : World) (hr : Row w a T) (hT : PlaceText neg whole frac T) (hw1 : whole < 18446744073709551616) (hf1 : frac < 10000000000000000) :
    Calls Try.prog 20 #[.slice a T.length cap] w (ParseEnds neg whole frac w) := by
  obtain ⟨b, off, rfl, _, hc⟩ := hr.at (by have := hT.len; omega)
  obtain ⟨ds, hd, h⟩ := hT
  cases neg with
  | false =>
    rcases h with ⟨rfl, rfl⟩ | ⟨hf, ps, hp, rfl⟩
    · exact parse_pos_int b off cap _ _ whole w rfl hw1 hd hc
    · simp only [sg, Bool.false_eq_true, if_false, List.nil_append] at hc ⊢
      refine parse_pos_frac b off cap _ ds ps whole frac w (by simp; omega) hw1 hf1 hd hp (fun j hj => ?_) ?_ (fun j hj => ?_)
      · rw [hc j (by simp; omega), getD_left _ hj]
      · rw [hc ds.length (by simp), getD_mid]
      · have e : ds ++ 46 :: ps = (ds ++ [46]) ++ ps := by simp
        have := getD_right (ds ++ [46]) ps j
        simp only [List.length_append, List.length_cons, List.length_nil] at this
        rw [hc (ds.length + 1 + j) (by simp; omega), e, this]
  | true =>
    rcases h with ⟨rfl, rfl⟩ | ⟨hf, ps, hp, rfl⟩
    · simp only [sg, if_true, List.cons_append, List.nil_append] at hc ⊢
      refine parse_neg_int b off cap _ ds whole w (by simp; omega) hw1 hd ?_ (fun j hj => ?_)
      · have := hc 0 (by simp)
        simpa using this
      · rw [hc (1 + j) (by simp; omega), Nat.add_comm 1 j]
        simp
    · simp only [sg, if_true, List.cons_append, List.nil_append] at hc ⊢
      refine parse_neg_frac b off cap _ ds ps whole frac w (by simp; omega) hw1 hf1 hd hp ?_ (fun j hj => ?_) ?_ (fun j hj => ?_)
      · have := hc 0 (by simp)
        simpa using this
      · rw [hc (1 + j) (by simp; omega), Nat.add_comm 1 j]
        have := getD_left (46 :: ps) hj
        simpa using this
      · rw [hc (1 + ds.length) (by simp; omega), Nat.add_comm 1]
        simp
      · have e : ds ++ 46 :: ps = (ds ++ [46]) ++ ps := by simp
        have := getD_right (ds ++ [46]) ps j
        simp only [List.length_append, List.length_cons, List.length_nil] at this
        rw [hc (1 + ds.length + 1 + j) (by simp; omega), e, show 1 + ds.length + 1 + j = (ds.length + 0 + 1 + j) + 1 by omega]
        simpa using this

theorem bytes18 (a : Option Addr) (n cap : Nat) (b : Bool) (x y : Int) (w : World) (h : n ≤ 1048576) : Calls Try.prog 18 #[.slice a n cap, .bool b, .int .u64 x, .int .u64 y] w fun e w' => e = .returned (.bool true) ∧ w = w' := by
  have h' : ¬ (1048576 : Int) < (n : Int) := by omega
  go_enter Try.func18, Try.ntmps18
  go_wp2
  go_ret
  exact ⟨rfl, rfl⟩

theorem back_long (a : Option Addr) (n cap : Nat) (b : Bool) (x y : Int) (w : World) (h : 1048576 < n) (hm : n ≤ 9223372036854775807) : Calls Try.prog 7 #[.slice a n cap, .bool b, .int .u64 x, .int .u64 y] w fun e w' => e = .returned (.bool true) ∧ Below w.heap.size w w' := by
  have h' : (1048576 : Int) < (n : Int) := by omega
  go_enter Try.func7, Try.ntmps7
  go_wp2
  go_ret
  exact ⟨rfl, Below.refl _ _⟩

theorem back_big (a : Option Addr) (n cap : Nat) (b : Bool) (x y : Int) (w : World) (h : n ≤ 1048576) (hy : 10000000000000000 ≤ y) : Calls Try.prog 7 #[.slice a n cap, .bool b, .int .u64 x, .int .u64 y] w fun e w' => e = .returned (.bool true) ∧ Below w.heap.size w w' := by
  have h' : ¬ (1048576 : Int) < (n : Int) := by omega
  go_enter Try.func7, Try.ntmps7
  go_wp2
  go_ret
  exact ⟨rfl, Below.refl _ _⟩

set_option maxRecDepth 100000 in
set_option maxHeartbeats 2000000 in
theorem back_walk (a : Option Addr) (cap : Nat) (L : List Int) (neg : Bool) (whole frac : Int) (w : World) (hr : Row w a L) (hn : a = none → L = []) (hl : L.length ≤ 1048576) (hw0 : 0 ≤ whole) (hw1 : whole < 18446744073709551616) (hf0 : 0 ≤ frac) (hf1 : frac < 10000000000000000) :
    Calls Try.prog 7 #[.slice a L.length cap, .bool neg, .int .u64 whole, .int .u64 frac] w fun e w' => e = .returned (.bool true) ∧ Below w.heap.size w w' := by
  have HCL := clone_any a cap L w hr hn hl
  obtain ⟨n, hnL⟩ : ∃ n, n = L.length := ⟨_, rfl⟩
  rw [← hnL] at hl HCL
  rw [← hnL]
  have HN : Hid (n = L.length) := hnL
  have h20 : ¬ (1048576 : Int) < (n : Int) := by omega
  clear hnL hr hn
  go_enter Try.func7, Try.ntmps7
  go_wp2_with fail
  refine (bytes18 _ _ _ _ _ _ _ hl).mono ?_
  rintro e w' ⟨rfl, rfl⟩
  go_wp2_with fail
  refine HCL.mono ?_
  rintro e w1 ⟨a1, rfl, hn1, hb1, hr1, hbel1⟩
  have hown := Own.of_full hr1 hn1 hb1
  have HPL := places_any w1.heap.size _ L neg whole frac w1 hown (Nat.le_refl _) (by have := HN.out; omega) hw0 hw1 hf0 hf1
  clear hown hn1 hb1 HCL
  rw [← HN.out] at HPL ⊢
  go_wp2_with fail
  refine HPL.mono ?_
  rintro e w2 ⟨v2, T, rfl, hown2, hbel2, hT⟩
  obtain ⟨a2, c2, hv2, hc2, _, hr2⟩ := hown2.shape hbel2.size
  obtain ⟨b2, o2, rfl, hb2, hcell2⟩ := hr2.at (by have := hT.len; simp; omega)
  have hr1' := hr1.mono hbel2
  have hTl := hT.len
  have hlen2 : (L ++ T).length = n + T.length := by rw [HN.out]; simp
  rw [hlen2] at hv2 hc2
  rw [hv2]
  have hbw2 : Below w.heap.size w w2 := hbel1.trans (hbel2.mono hbel1.size)
  obtain ⟨m, hm⟩ : ∃ m, m = T.length := ⟨_, rfl⟩
  rw [← hm] at hTl hc2 ⊢
  have HCE : Hid (∀ j, j < n + m → w2.cell? ⟨b2, o2 + j, none⟩ = some (.int .u8 ((L ++ T).getD j 0))) := fun j hj => hcell2 j (by rw [hlen2]; omega)
  have HM : Hid (m = T.length) := hm
  clear hcell2 hr2 hown2 hlen2 hm hv2 HPL hr1 hbel1 hbel2
  go_wp2
  go_loopw [10] (fun i wr => ∃ k : Nat, k ≤ n ∧ i = .int .i64 k ∧ Below w2.heap.size w2 wr) (fun i _ => n - (intOf i).toNat)
  case atStart => exact ⟨0, Nat.zero_le _, rfl, Below.refl _ _⟩
  case round =>
    obtain ⟨k, hk, rfl, hbr⟩ := hrel
    by_cases hlt : k < n
    · have hkL : k < L.length := by rw [← HN.out]; exact hlt
      obtain ⟨b1, o1, rfl, hb1', hc1⟩ := hr1'.at (by omega)
      have hck := (hbr.cell (p := ⟨b1, o1 + k, none⟩) hb1').trans (hc1 k hkL)
      have hck2 := (hbr.cell (p := ⟨b2, o2 + k, none⟩) hb2).trans (HCE.out k (by omega))
      rw [getD_left T hkL] at hck2
      obtain ⟨x, hx⟩ : ∃ x, x = L.getD k 0 := ⟨_, rfl⟩
      rw [← hx] at hck hck2
      have hlt2 : (k : Int) < (n : Int) := by omega
      have hlt3 : (k : Int) < ((n + m : Nat) : Int) := by omega
      clear hx hc1 hr1'
      go_wp2
      go_quiet (fail)
      go_wp2
      go_roundw
      case rel => exact ⟨k + 1, by omega, by go_num, below_drewN hbr nq⟩
      case measure => simp [intOf]; omega
    · have hkn : k = n := by omega
      subst hkn
      clear hr1'
      have hrT : Row wr (some ⟨b2, o2 + k, none⟩) T := by
        refine Or.inr ⟨b2, o2 + k, rfl, Nat.lt_of_lt_of_le hb2 hbr.size, fun j hj => ?_⟩
        rw [hbr.cell (p := ⟨b2, o2 + k + j, none⟩) hb2, Nat.add_assoc, HCE.out (k + j) (by rw [HM.out]; omega), HN.out, getD_right]
      have HPA := fun c => parse_any (some ⟨b2, o2 + k, none⟩) c T neg whole frac wr hrT hT hw1 hf1
      rw [← HM.out] at HPA
      have hce : ¬ c2 = k := by omega
      have hbwr : Below w.heap.size w wr := hbw2.trans (hbr.mono hbw2.size)
      clear hrT HCE
      go_wp2_with fail
      refine (HPA _).mono ?_
      rintro e w' ⟨rfl, rfl⟩
      go_wp2
      go_ret
      exact ⟨rfl, hbwr⟩
end Go.Proofs.Qxb6602909a
