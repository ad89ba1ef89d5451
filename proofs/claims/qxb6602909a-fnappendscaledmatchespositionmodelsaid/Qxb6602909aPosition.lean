/-
  FnAppendScaledMatchesPositionModel, walked.
-/
import Derived.Test.Qxb6602909aClone
import Derived.Test.Qxb6602909aDigOk
import Derived.Test.Qxb6602909aModelNeg
namespace Go.Proofs.Qxb6602909a
open Go.RowKit

theorem trim_to (ds : List Int) (h0 : ds.getD 0 0 ≠ 48) : ∀ m, 1 ≤ m → m ≤ ds.length → (∀ j, m ≤ j → j < ds.length → ds.getD j 0 = 48) → ∃ K, Trim ds K := by
  intro m
  induction m with
  | zero => intro h; omega
  | succ m ih =>
    intro _ h2 h3
    by_cases hm : ds.getD m 0 = 48
    · rcases Nat.eq_zero_or_pos m with hz | hz
      · subst hz
        exact absurd hm h0
      · refine ih hz (by omega) (fun j hj1 hj2 => ?_)
        rcases Nat.lt_or_ge m j with h | h
        · exact h3 j h hj2
        · have : j = m := by omega
          rw [this]
          exact hm
    · exact ⟨m + 1, by omega, h2, by simpa using hm, h3⟩
theorem trim_exists {ds : List Int} (h : OkDigs ds) : ∃ K, Trim ds K :=
  trim_to ds h.2.2 ds.length h.2.1 (Nat.le_refl _) (fun j h1 h2 => by omega)

theorem text_len (neg : Bool) {ds : List Int} {exp : Int} {K : Nat} (hd1 : 1 ≤ ds.length) (hdl : ds.length ≤ 2000000) (hK : Trim ds K) (he0 : -65536 ≤ exp) (he1 : exp ≤ 65536) : (scaledText neg ds exp K).length ≤ 6000000 := by
  have h := (body_any ds exp K hd1 hK).len
  have hK2 := hK.2.1
  have e := congrArg List.length (sg_scaled neg ds exp K)
  have hs : (sg neg).length ≤ 1 := by cases neg <;> simp [sg]
  rw [List.length_append] at e
  have h1 : hiOf ds exp ≤ 2100000 := by unfold hiOf; split <;> omega
  have h2 : -65536 ≤ lowOf ds exp K := by unfold lowOf; split <;> omega
  split at h <;> omega

theorem model_any (a : Option Addr) (capL : Nat) (L : List Int) (neg : Bool) (bd od cap : Nat) (ds : List Int) (exp : Int) (K : Nat) (w : World) (hr : Row w a L) (hl : L.length ≤ 2000000) (hdl : ds.length ≤ 2000000) (hd1 : 1 ≤ ds.length) (hD : DigAt w.heap.size w bd od ds) (hK : Trim ds K) (he0 : -65536 ≤ exp) (he1 : exp ≤ 65536) :
    Calls Try.prog 12 #[.slice a L.length capL, .bool neg, .slice (some ⟨bd, od, none⟩) ds.length cap, .int .i64 exp] w (ModelEnds w.heap.size L neg ds exp K w) := by
  cases neg
  · exact model_false a capL L bd od cap ds exp K w hr hl hdl hd1 hD hK he0 he1
  · exact model_true a capL L bd od cap ds exp K w hr hl hdl hd1 hD hK he0 he1

theorem digAt_of_row {w : World} {bd od : Nat} {ds : List Int} (hb : bd < w.heap.size) (hc : ∀ j, j < ds.length → w.cell? ⟨bd, od + j, none⟩ = some (.int .u8 (ds.getD j 0))) : DigAt w.heap.size w bd od ds :=
  fun _ hbel j hj => (hbel.cell (p := ⟨bd, od + j, none⟩) hb).trans (hc j hj)

theorem pos_long (a1 a2 : Option Addr) (n1 n2 c1 c2 : Nat) (b : Bool) (e : Int) (w : World) (h : 1048576 < n1 + n2) (hm1 : n1 ≤ 9223372036854775807) (hm2 : n2 ≤ 9223372036854775807) : Calls Try.prog 3 #[.slice a1 n1 c1, .bool b, .slice a2 n2 c2, .int .i64 e] w fun e w' => e = .returned (.bool true) ∧ Below w.heap.size w w' := by
  by_cases h1 : (1048576 : Int) < (n1 : Int)
  · go_enter Try.func3, Try.ntmps3
    go_wp2
    go_ret
    exact ⟨rfl, Below.refl _ _⟩
  · by_cases h2 : (1048576 : Int) < (n2 : Int)
    · go_enter Try.func3, Try.ntmps3
      go_wp2
      go_ret
      exact ⟨rfl, Below.refl _ _⟩
    · have h3 : (1048576 : Int) < (n1 : Int) + (n2 : Int) := by omega
      go_enter Try.func3, Try.ntmps3
      go_wp2
      go_ret
      exact ⟨rfl, Below.refl _ _⟩

theorem pos_exp (a1 a2 : Option Addr) (n1 n2 c1 c2 : Nat) (b : Bool) (e : Int) (w : World) (h : n1 + n2 ≤ 1048576) (he : e < -65536 ∨ 65536 < e) : Calls Try.prog 3 #[.slice a1 n1 c1, .bool b, .slice a2 n2 c2, .int .i64 e] w fun e w' => e = .returned (.bool true) ∧ Below w.heap.size w w' := by
  have h1 : ¬ (1048576 : Int) < (n1 : Int) := by omega
  have h2 : ¬ (1048576 : Int) < (n2 : Int) := by omega
  have h3 : ¬ (1048576 : Int) < (n1 : Int) + (n2 : Int) := by omega
  rcases he with he | he
  · go_enter Try.func3, Try.ntmps3
    go_wp2
    go_ret
    exact ⟨rfl, Below.refl _ _⟩
  · have he2 : ¬ e < -65536 := by omega
    go_enter Try.func3, Try.ntmps3
    go_wp2
    go_ret
    exact ⟨rfl, Below.refl _ _⟩

set_option maxRecDepth 100000 in
set_option maxHeartbeats 2000000 in
theorem pos_walk (a1 a2 : Option Addr) (c1 c2 : Nat) (L : List Int) (neg : Bool) (ds : List Int) (exp : Int) (w : World) (hr1 : Row w a1 L) (hn1 : a1 = none → L = []) (hr2 : Row w a2 ds) (hn2 : a2 = none → ds = []) (hl : L.length + ds.length ≤ 1048576) (he0 : -65536 ≤ exp) (he1 : exp ≤ 65536)
    (hb : ∀ j, 0 ≤ ds.getD j 0 ∧ ds.getD j 0 ≤ 255) :
    Calls Try.prog 3 #[.slice a1 L.length c1, .bool neg, .slice a2 ds.length c2, .int .i64 exp] w fun e w' => e = .returned (.bool true) ∧ Below w.heap.size w w' := by
  have HOK : Calls Try.prog 10 #[.slice a2 ds.length c2] w (OkEnds ds w) := by
    rcases Nat.eq_zero_or_pos ds.length with h | h
    · have h0 : ds = [] := List.eq_nil_of_length_eq_zero h
      rw [h0]
      exact digOk_empty a2 c2 w
    · obtain ⟨b, off, rfl, _, hc⟩ := hr2.at h
      exact digOk_any b off c2 ds w (by omega) h hb hc
  have HC1 := clone_any a1 c1 L w hr1 hn1 (by omega)
  have HC2 : ∀ wx, Below w.heap.size w wx → Calls Try.prog 11 #[.slice a2 ds.length c2] wx (CloneEnds ds wx) := fun wx hbx => clone_any a2 c2 ds wx (hr2.mono hbx) hn2 (by omega)
  have h1 : ¬ (1048576 : Int) < (L.length : Int) := by omega
  have h2 : ¬ (1048576 : Int) < (ds.length : Int) := by omega
  have h3 : ¬ (1048576 : Int) < (L.length : Int) + (ds.length : Int) := by omega
  have he0' : ¬ exp < -65536 := by omega
  have HC2' : Hid (∀ wx, Below w.heap.size w wx → Calls Try.prog 11 #[.slice a2 ds.length c2] wx (CloneEnds ds wx)) := HC2
  clear HC2 hr1 hr2 hn1 hn2 hb
  go_enter Try.func3, Try.ntmps3
  go_wp2_with fail
  refine (bytes9 _ _ _ _ _ _ _ _ _ hl).mono ?_
  rintro e w' ⟨rfl, rfl⟩
  go_wp2_with fail
  refine HOK.mono ?_
  rintro e w' ⟨r, rfl, rfl, hr⟩
  cases r with
  | false =>
    go_wp2
    go_ret
    exact ⟨rfl, Below.refl _ _⟩
  | true =>
    have hok := hr rfl
    obtain ⟨K, hK⟩ := trim_exists hok
    have hd1 := hok.2.1
    clear hr HOK
    go_wp2_with fail
    refine HC1.mono ?_
    rintro e w1 ⟨ab, rfl, hnb, hbb, hrb, hbel1⟩
    clear HC1
    go_wp2_with fail
    refine (HC2'.out w1 hbel1).mono ?_
    rintro e w2 ⟨ad, rfl, _, _, hrd, hbel2⟩
    obtain ⟨bd, od, rfl, hbd, hcd⟩ := hrd.at (by omega)
    have hD2 := digAt_of_row hbd hcd
    have hrb2 := hrb.mono hbel2
    have hbw2 : Below w.heap.size w w2 := hbel1.trans (hbel2.mono hbel1.size)
    have HM := model_any ab L.length L neg bd od ds.length ds exp K w2 hrb2 (by omega) (by omega) hd1 hD2 hK he0 he1
    clear hrd HC2' hD2
    go_wp2_with fail
    refine HM.mono ?_
    rintro e w3 ⟨v3, rfl, hown3, hbel3⟩
    have hbw3 : Below w.heap.size w w3 := hbw2.trans (hbel3.mono hbw2.size)
    have hrb3 := hrb2.mono hbel3
    have hD3 : DigAt w3.heap.size w3 bd od ds := digAt_of_row (Nat.lt_of_lt_of_le hbd hbel3.size) (fun j hj => (hbel3.cell (p := ⟨bd, od + j, none⟩) hbd).trans (hcd j hj))
    have hbb3 : ∀ adr, ab = some adr → adr.block < w3.heap.size := fun adr h => Nat.lt_of_lt_of_le (hbb adr h) (Nat.le_trans hbel2.size hbel3.size)
    have HSC := scaled_any w3.heap.size _ L neg bd od ds.length ds exp K w3 (Own.of_full hrb3 hnb hbb3) (Nat.le_refl _) (by omega) (by omega) (Nat.le_refl _) hd1 hD3 hK he0 he1
    obtain ⟨a3, c3, hv3, _, _, hr3⟩ := hown3.shape hbel3.size
    have HV3 : Hid (v3 = .slice a3 (L ++ scaledText neg ds exp K).length c3) := hv3
    clear hv3
    clear HM hrb2 hrb3 hD3 hcd hown3 hbb hbb3 hrb
    go_wp2_with fail
    refine HSC.mono ?_
    rintro e w4 ⟨v4, rfl, hown4, hbel4⟩
    obtain ⟨a4, c4, hv4, _, _, hr4⟩ := hown4.shape hbel4.size
    have hr3' := hr3.mono hbel4
    have hbw4 : Below w.heap.size w w4 := hbw3.trans (hbel4.mono hbw3.size)
    have htl := text_len neg hd1 (by omega) hK he0 he1
    have HSM := same_any a4 a3 c4 c3 (L ++ scaledText neg ds exp K) w4 hr4 hr3' (by simp; omega)
    rw [← HV3.out, ← hv4] at HSM
    clear HSC hown4 hr3 hr3' hr4 HV3 hv4
    go_wp2_with fail
    refine HSM.mono ?_
    rintro e w5 ⟨rfl, hbel5⟩
    go_wp2
    go_ret
    exact ⟨rfl, hbw4.trans (hbel5.mono hbw4.size)⟩
end Go.Proofs.Qxb6602909a
