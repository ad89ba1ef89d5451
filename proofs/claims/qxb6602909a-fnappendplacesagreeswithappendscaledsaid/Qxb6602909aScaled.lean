/-
  appendScaled, by its contract.
-/
import Derived.Test.Qxb6602909aPlaces
namespace Go.Proofs.Qxb6602909a
open Go.RowKit

/-- The length in a slot. -/
def lenOf : Value → Nat | .slice _ n _ => n | _ => 0

/-- Of the digits ds the first K are those without the trailing noughts. -/
def Trim (ds : List Int) (K : Nat) : Prop := 1 ≤ K ∧ K ≤ ds.length ∧ ds.getD (K - 1) 0 ≠ 48 ∧ ∀ j, K ≤ j → j < ds.length → ds.getD j 0 = 48

/-- The text of digits x 10^exp. -/
def scaledText (neg : Bool) (ds : List Int) (exp : Int) (K : Nat) : List Int :=
  if 0 ≤ exp then sg neg ++ ds ++ List.replicate exp.toNat 48
  else if 0 < (ds.length : Int) + exp then
    (if (K : Int) ≤ ds.length + exp then sg neg ++ ds.take (ds.length + exp).toNat else sg neg ++ ds.take (ds.length + exp).toNat ++ [46] ++ (ds.take K).drop (ds.length + exp).toNat)
  else sg neg ++ [48] ++ [46] ++ List.replicate (-(ds.length + exp)).toNat 48 ++ ds.take K

def ScaledEnds (B : Nat) (L : List Int) (neg : Bool) (ds : List Int) (exp : Int) (K : Nat) (w : World) (e : Ending) (w' : World) : Prop :=
  ∃ v', e = .returned v' ∧ Own B w' v' (L ++ scaledText neg ds exp K) ∧ Below B w w'

/-- The digits' cells, wherever the call has come. -/
def DigAt (B : Nat) (w : World) (bd od : Nat) (ds : List Int) : Prop := ∀ wx, Below B w wx → ∀ j, j < ds.length → wx.cell? ⟨bd, od + j, none⟩ = some (.int .u8 (ds.getD j 0))

theorem DigAt.src {B : Nat} {w : World} {bd od : Nat} {ds : List Int} (h : DigAt B w bd od ds) {wx : World} (hb : Below B w wx) (lo hi : Nat) : ∀ j u, (((ds.take hi).drop lo).map (Value.int .u8))[j]? = some u → wx.cell? ((⟨bd, od + lo, none⟩ : Addr).add j) = some u := by
  intro j u hu
  rw [List.getElem?_map] at hu
  obtain ⟨c, hc, rfl⟩ := Option.map_eq_some_iff.1 hu
  rw [List.getElem?_drop, List.getElem?_take] at hc
  split at hc
  · have hjl : lo + j < ds.length := (List.getElem?_eq_some_iff.1 hc).1
    rw [Addr.add_lit, Nat.add_assoc, h wx hb (lo + j) hjl]
    simp [List.getD_eq_getElem?_getD, hc]
  · cases hc

theorem Trim.unique {ds : List Int} {K K' : Nat} (h : Trim ds K) (h' : Trim ds K') : K = K' := by
  obtain ⟨h1, h2, h3, h4⟩ := h
  obtain ⟨h1', h2', h3', h4'⟩ := h'
  rcases Nat.lt_trichotomy K K' with h | h | h
  · exact absurd (h4 (K' - 1) (by omega) (by omega)) h3'
  · exact h
  · exact absurd (h4' (K - 1) (by omega) (by omega)) h3

theorem text_mid_int (neg : Bool) {ds : List Int} {pt pl K : Nat} (hn : ds.length = pt + pl) (hpt : 1 ≤ pt) (hpl : 1 ≤ pl) (hK : K ≤ pt) : scaledText neg ds (-(pl : Int)) K = sg neg ++ ds.take pt := by
  have e : ((ds.length : Int) + -(pl : Int)) = (pt : Int) := by omega
  unfold scaledText
  rw [e, if_neg (by omega), if_pos (by omega), if_pos (by omega)]
  rfl
theorem text_mid_frac (neg : Bool) {ds : List Int} {pt pl K : Nat} (hn : ds.length = pt + pl) (hpt : 1 ≤ pt) (hpl : 1 ≤ pl) (hK : pt < K) : scaledText neg ds (-(pl : Int)) K = sg neg ++ ds.take pt ++ [46] ++ (ds.take K).drop pt := by
  have e : ((ds.length : Int) + -(pl : Int)) = (pt : Int) := by omega
  unfold scaledText
  rw [e, if_neg (by omega), if_pos (by omega), if_neg (by omega)]
  rfl
theorem text_low (neg : Bool) {ds : List Int} {z pl K : Nat} (hn : ds.length + z = pl) (hpl : 1 ≤ pl) : scaledText neg ds (-(pl : Int)) K = sg neg ++ [48] ++ [46] ++ List.replicate z 48 ++ ds.take K := by
  have e : ((ds.length : Int) + -(pl : Int)) = -(z : Int) := by omega
  unfold scaledText
  rw [e, if_neg (by omega), if_neg (by omega), show (- -(z : Int)).toNat = z by omega]

set_option maxRecDepth 100000 in
set_option maxHeartbeats 2000000 in
theorem scaled_up_false (B : Nat) (v : Value) (L : List Int) (bd od cap : Nat) (ds : List Int) (e : Nat) (K : Nat) (w : World) (hown : Own B w v L) (hB : B ≤ w.heap.size) (hl : L.length ≤ 2000000) (hdl : ds.length ≤ 2000000) (hd1 : 1 ≤ ds.length) (hD : DigAt B w bd od ds) (he : e ≤ 65536) :
    Calls Try.prog 24 #[v, .bool false, .slice (some ⟨bd, od, none⟩) ds.length cap, .int .i64 e] w (ScaledEnds B L false ds e K w) := by
  have HD : Hid (DigAt B w bd od ds) := hD
  obtain ⟨n, hn⟩ : ∃ n, n = ds.length := ⟨_, rfl⟩
  have HN : Hid (n = ds.length) := hn
  rw [← hn] at hdl hd1
  rw [← hn]
  clear hn hD
  have hbw0 : Below B w w := Below.refl _ _
  obtain ⟨L0, hL0⟩ : ∃ L0, L0 = L := ⟨_, rfl⟩
  have hl0 : L0.length ≤ 2000001 := by rw [hL0]; omega
  have HL0 : Hid (L0 = L ++ sg false) := (show _ = _ by rw [hL0]; simp [sg])
  rw [← hL0] at hown
  clear hL0
  go_enter Try.func24, Try.ntmps24
  have HS : Hid (∀ j u, ((ds.drop 0).map (Value.int .u8))[j]? = some u → w.cell? ((⟨bd, od, none⟩ : Addr).add j) = some u) := by
    have := HD.out.src hbw0 0 ds.length
    simp only [List.take_length] at this
    exact this
  go_wp2_with (at_builtin; refine wpList_append_Own _ rfl (.tmp 18) (.tmp 19) rfl B hB v L0 rfl hown ⟨bd, od, none⟩ n cap ds rfl HN.out.symm (by omega) HS.out (by omega) ?_)
  intro v1 w1 hown1 hbel1 _
  have hbw1 : Below B w w1 := hbw0.trans hbel1
  have hB1 : B ≤ w1.heap.size := Nat.le_trans hB hbel1.size
  clear HS hbel1
  go_wp2
  go_loopw [0, 22] (fun x i wr => ∃ (k : Nat) (T : List Int), k ≤ e ∧ i = .int .i64 k ∧ Hid (T = L0 ++ ds ++ List.replicate k 48) ∧ Own B wr x T ∧ Below B w wr) (fun _ i _ => e - (intOf i).toNat)
  case atStart => exact ⟨0, _, Nat.zero_le _, rfl, (show _ = _ by simp), hown1, hbw1⟩
  case round =>
    obtain ⟨k, T, hk, rfl, HT, hownr, hbr⟩ := hrel
    clear hown1 hbw1
    have hBr : B ≤ wr.heap.size := Nat.le_trans (by omega) hbr.size
    have hTl : T.length ≤ 5000000 := by rw [HT.out]; have := HN.out; simp; omega
    by_cases hlt : k < e
    · go_wp2_with (at_builtin; refine wpList_append_Own _ rfl (.tmp 24) (.tmp 25) rfl B (by simp; omega) _ T rfl (hownr.mono hBr ((Below.refl _ _).alloc (Nat.le_refl _) _)) ⟨wr.heap.size, 0, none⟩ 1 1 [48] rfl rfl (by omega) (one_new _ _ _) (by omega) ?_)
      intro v2 w2 hown2 hbel2 _
      have hbw2 : Below B w w2 := (hbr.alloc hBr _).trans hbel2
      go_wp2
      go_roundw
      case rel => exact ⟨k + 1, T ++ [48], by omega, by go_num, (show _ = _ by rw [HT.out, List.append_assoc, List.replicate_succ']), hown2, hbw2⟩
      case measure => simp [intOf]; omega
    · have hke : k = e := by omega
      subst hke
      go_wp2
      go_ret
      refine ⟨_, rfl, ?_, hbr⟩
      have e1 : T = L ++ scaledText false ds k K := by
        rw [HT.out, HL0.out]
        simp [scaledText]
      rw [← e1]
      exact hownr

set_option maxRecDepth 100000 in
set_option maxHeartbeats 4000000 in
theorem scaled_mid_false (B : Nat) (v : Value) (L : List Int) (bd od cap : Nat) (ds : List Int) (pt pl : Nat) (K : Nat) (w : World) (hown : Own B w v L) (hB : B ≤ w.heap.size) (hl : L.length ≤ 2000000) (hdl : ds.length ≤ 2000000) (hdc : ds.length ≤ cap) (hd1 : 1 ≤ ds.length) (hD : DigAt B w bd od ds) (hK : Trim ds K) (hn : ds.length = pt + pl) (hpt : 1 ≤ pt) (hpl : 1 ≤ pl) (hpl2 : pl ≤ 65536) :
    Calls Try.prog 24 #[v, .bool false, .slice (some ⟨bd, od, none⟩) ds.length cap, .int .i64 (-(pl : Int))] w (ScaledEnds B L false ds (-(pl : Int)) K w) := by
  have HD : Hid (DigAt B w bd od ds) := hD
  have HK : Hid (Trim ds K) := hK
  obtain ⟨n, hn'⟩ : ∃ n, n = ds.length := ⟨_, rfl⟩
  have HN : Hid (n = ds.length) := hn'
  rw [← hn'] at hdl hdc hd1 hn
  rw [← hn']
  clear hn' hK hD
  have hpI : (0 : Int) < (pt : Int) := by omega
  have hnI : (n : Int) - (pl : Int) = (pt : Int) := by omega
  have HN2 : Hid (n = pt + pl) := hn
  have hptn : pt < n := by omega
  clear hn
  have hbw0 : Below B w w := Below.refl _ _
  obtain ⟨L0, hL0⟩ : ∃ L0, L0 = L := ⟨_, rfl⟩
  have hl0 : L0.length ≤ 2000001 := by rw [hL0]; omega
  have HL0 : Hid (L0 = L ++ sg false) := (show _ = _ by rw [hL0]; simp [sg])
  rw [← hL0] at hown
  clear hL0
  go_enter Try.func24, Try.ntmps24
  have HS : Hid (∀ j u, ((ds.take pt).map (Value.int .u8))[j]? = some u → w.cell? ((⟨bd, od, none⟩ : Addr).add j) = some u) := by
    have := HD.out.src hbw0 0 pt
    exact this
  have HTL : Hid ((ds.take pt).length = pt) := (show _ = _ by have := HN.out; simp; omega)
  go_wp2_with (at_builtin; refine wpList_append_Own _ rfl (.tmp 37) (.tmp 40) rfl B hB v L0 rfl hown ⟨bd, od, none⟩ pt cap (ds.take pt) rfl HTL.out (by omega) HS.out (by omega) ?_)
  intro v1 w1 hown1 hbel1 _
  have hbw1 : Below B w w1 := hbw0.trans hbel1
  obtain ⟨X, hX⟩ : ∃ X, X = ds.take pt := ⟨_, rfl⟩
  have hXl : X.length = pt := by rw [hX]; exact HTL.out
  rw [← hX] at hown1
  have HX : Hid (X = ds.take pt) := hX
  clear HS hbel1 HTL hX
  go_wp2
  have hB1 : B ≤ w1.heap.size := Nat.le_trans hB hbw1.size
  have HD1 : Hid (∀ j, j < ds.length → w1.cell? ⟨bd, od + j, none⟩ = some (.int .u8 (ds.getD j 0))) := HD.out w1 hbw1
  go_loop [11] (fun f => ∃ d : Nat, f = .slice (some ⟨bd, od + pt, none⟩) d (cap - pt) ∧ pt + d ≤ n ∧ Hid (∀ j, pt + d ≤ j → j < ds.length → ds.getD j 0 = 48)) (fun f => lenOf f)
  case atStart => exact ⟨n - pt, rfl, by omega, fun j h1 h2 => by have := HN.out; omega⟩
  case round =>
    obtain ⟨d, rfl, hdn, HZ⟩ := hrel
    rcases Nat.eq_zero_or_pos d with hd0 | hd0
    · subst hd0
      have HKp : Hid (K ≤ pt) := by
        show K ≤ pt
        rcases Nat.lt_or_ge pt K with h | h
        · exact absurd (HZ.out (K - 1) (by omega) (by have := HK.out.2.1; omega)) HK.out.2.2.1
        · exact h
      clear HD1
      go_wp2
      go_ret
      refine ⟨v1, rfl, ?_, hbw1⟩
      rw [text_mid_int false (by rw [← HN.out]; exact HN2.out) hpt hpl HKp.out, ← List.append_assoc, ← HL0.out, ← HX.out]
      exact hown1
    · obtain ⟨d', rfl⟩ : ∃ d', d = d' + 1 := ⟨d - 1, by omega⟩
      have hcy := HD1.out (pt + d') (by have := HN.out; omega)
      obtain ⟨y, hy⟩ : ∃ y, y = ds.getD (pt + d') 0 := ⟨_, rfl⟩
      rw [← hy, ← Nat.add_assoc] at hcy
      have HY : Hid (y = ds.getD (pt + d') 0) := hy
      clear hy
      have hlenI : (0 : Int) < ((d' + 1 : Nat) : Int) := by omega
      by_cases hy48 : y = 48
      · have hy' : (y == 48) = true := by simp [hy48]
        have hcapne : ¬ cap - pt = 0 := by omega
        go_wp2
        go_round
        case rel =>
          refine ⟨d', rfl, by omega, fun j h1 h2 => ?_⟩
          rcases Nat.lt_or_ge (pt + d') j with h | h
          · exact HZ.out j (by omega) h2
          · have : j = pt + d' := by omega
            rw [this, ← HY.out]
            exact hy48
        case measure => simp [lenOf]
      · have hy' : (y == 48) = false := by simp [hy48]
        have HKe : Hid (K = pt + d' + 1) := by
          refine Trim.unique HK.out ⟨by omega, by have := HN.out; omega, ?_, HZ.out⟩
          rw [show pt + d' + 1 - 1 = pt + d' by omega, ← HY.out]
          exact hy48
        have hne0 : (((d' + 1 : Nat) : Int) == 0) = false := by simp; omega
        clear hy48 HY HZ
        go_wp2_with (at_builtin; refine wpList_append_Own _ rfl (.tmp 70) (.tmp 71) rfl B (by simp; omega) v1 (L0 ++ X) rfl (hown1.mono hB1 ((Below.refl _ _).alloc (Nat.le_refl _) _)) ⟨w1.heap.size, 0, none⟩ 1 1 [46] rfl rfl (by omega) (one_new _ _ _) (by simp; omega) ?_)
        intro v2 w2 hown2 hbel2 _
        have hbw2 : Below B w w2 := (hbw1.alloc hB1 _).trans hbel2
        obtain ⟨T2, hT2⟩ : ∃ T2, T2 = L0 ++ X ++ [46] := ⟨_, rfl⟩
        have hown2' : Own B w2 v2 T2 := by rw [hT2]; simpa using hown2
        have HT2 : Hid (T2 = L0 ++ X ++ [46]) := hT2
        have hT2l : T2.length ≤ 5000000 := by rw [hT2]; simp; omega
        clear hbel2 hown2 hT2 hown1 HD1 hcy hy'
        have hB2 : B ≤ w2.heap.size := Nat.le_trans hB hbw2.size
        go_wp2
        refine wp_loop_rounds 1 ?_
        rw [rounds_succ]
        have hown3 := hown2'
        have hbw3 := hbw2
        have hB3 := hB2
        obtain ⟨T3, hT3⟩ : ∃ T3, T3 = T2 := ⟨_, rfl⟩
        obtain ⟨v3, hv3⟩ : ∃ v3, v3 = v2 := ⟨_, rfl⟩
        obtain ⟨w3, hw3⟩ : ∃ w3, w3 = w2 := ⟨_, rfl⟩
        have hT3l : T3.length ≤ 5000000 := by rw [hT3]; exact hT2l
        have HT3 : Hid (T3 = T2) := hT3
        rw [← hv3, ← hw3, ← hT3] at hown3
        rw [← hw3] at hbw3 hB3
        rw [← hv3, ← hw3]
        clear hT3 hv3 hw3 hown2' hbw2 hB2
        have hsrc := HD.out.src hbw3 (pt) K
        have HSR : Hid (∀ j u, (((ds.take K).drop (pt)).map (Value.int .u8))[j]? = some u → w3.cell? ((⟨bd, od + pt, none⟩ : Addr).add j) = some u) := hsrc
        have HNL : Hid (((ds.take K).drop (pt)).length = d' + 1) := (show _ = _ by have := HN.out; have := HKe.out; simp; omega)
        clear hsrc
        go_wp2_with (at_builtin; refine wpList_append_Own _ rfl (.tmp 81) (.tmp 82) rfl B hB3 v3 T3 rfl hown3 ⟨bd, od + pt, none⟩ (d' + 1) (cap - pt) ((ds.take K).drop (pt)) rfl HNL.out (by omega) HSR.out (by omega) ?_)
        intro v4 w4 hown4 hbel4 _
        go_wp2
        go_ret
        refine ⟨v4, rfl, ?_, hbw3.trans hbel4⟩
        have e1 : T3 ++ (ds.take K).drop (pt) = L ++ scaledText false ds (-(pl : Int)) K := by
          rw [HT3.out, HT2.out, HL0.out, HX.out, text_mid_frac false (by rw [← HN.out]; exact HN2.out) hpt hpl (by have := HKe.out; omega)]; simp
        rw [← e1]
        exact hown4

set_option maxRecDepth 100000 in
set_option maxHeartbeats 4000000 in
theorem scaled_low_false (B : Nat) (v : Value) (L : List Int) (bd od cap : Nat) (ds : List Int) (z pl : Nat) (K : Nat) (w : World) (hown : Own B w v L) (hB : B ≤ w.heap.size) (hl : L.length ≤ 2000000) (hdl : ds.length ≤ 2000000) (hdc : ds.length ≤ cap) (hd1 : 1 ≤ ds.length) (hD : DigAt B w bd od ds) (hK : Trim ds K) (hn : ds.length + z = pl) (hpl2 : pl ≤ 65536) (hz : 0 < z) :
    Calls Try.prog 24 #[v, .bool false, .slice (some ⟨bd, od, none⟩) ds.length cap, .int .i64 (-(pl : Int))] w (ScaledEnds B L false ds (-(pl : Int)) K w) := by
  have HD : Hid (DigAt B w bd od ds) := hD
  have HK : Hid (Trim ds K) := hK
  obtain ⟨n, hn'⟩ : ∃ n, n = ds.length := ⟨_, rfl⟩
  have HN : Hid (n = ds.length) := hn'
  rw [← hn'] at hdl hdc hd1 hn
  rw [← hn']
  clear hn' hK hD
  have hnI : (n : Int) - (pl : Int) = -(z : Int) := by omega
  have hpI : ¬ (0 : Int) < -(z : Int) := by omega
  have HN2 : Hid (n + z = pl) := hn
  have hpl1 : 1 ≤ pl := by omega
  clear hn
  have hbw0 : Below B w w := Below.refl _ _
  obtain ⟨L0, hL0⟩ : ∃ L0, L0 = L := ⟨_, rfl⟩
  have hl0 : L0.length ≤ 2000001 := by rw [hL0]; omega
  have HL0 : Hid (L0 = L ++ sg false) := (show _ = _ by rw [hL0]; simp [sg])
  rw [← hL0] at hown
  clear hL0
  go_enter Try.func24, Try.ntmps24
  go_wp2_with (at_builtin; refine wpList_append_Own _ rfl (.tmp 42) (.tmp 43) rfl B (by simp; omega) v L0 rfl (hown.mono hB ((Below.refl _ _).alloc (Nat.le_refl _) _)) ⟨w.heap.size, 0, none⟩ 1 1 [48] rfl rfl (by omega) (one_new _ _ _) (by omega) ?_)
  intro v1 w1 hown1 hbel1 _
  have hbw1 : Below B w w1 := (hbw0.alloc hB _).trans hbel1
  obtain ⟨X, hX⟩ : ∃ X : List Int, X = [48] := ⟨_, rfl⟩
  have hXl : X.length = 1 := by rw [hX]; rfl
  rw [← hX] at hown1
  have HX : Hid (X = [48]) := hX
  clear hbel1 hX
  go_wp2
  have hB1 : B ≤ w1.heap.size := Nat.le_trans hB hbw1.size
  have HD1 : Hid (∀ j, j < ds.length → w1.cell? ⟨bd, od + j, none⟩ = some (.int .u8 (ds.getD j 0))) := HD.out w1 hbw1
  go_loop [11] (fun f => ∃ d : Nat, f = .slice (some ⟨bd, od, none⟩) d (cap) ∧ d ≤ n ∧ Hid (∀ j, d ≤ j → j < ds.length → ds.getD j 0 = 48)) (fun f => lenOf f)
  case atStart => exact ⟨n, rfl, by omega, fun j h1 h2 => by have := HN.out; omega⟩
  case round =>
    obtain ⟨d, rfl, hdn, HZ⟩ := hrel
    rcases Nat.eq_zero_or_pos d with hd0 | hd0
    · subst hd0
      exfalso
      exact HK.out.2.2.1 (HZ.out (K - 1) (by omega) (by have := HK.out; have := this.2.1; have := HK.out.1; omega))
    · obtain ⟨d', rfl⟩ : ∃ d', d = d' + 1 := ⟨d - 1, by omega⟩
      have hcy := HD1.out (d') (by have := HN.out; omega)
      obtain ⟨y, hy⟩ : ∃ y, y = ds.getD (d') 0 := ⟨_, rfl⟩
      rw [← hy] at hcy
      have HY : Hid (y = ds.getD (d') 0) := hy
      clear hy
      have hlenI : (0 : Int) < ((d' + 1 : Nat) : Int) := by omega
      by_cases hy48 : y = 48
      · have hy' : (y == 48) = true := by simp [hy48]
        have hcapne : ¬ cap = 0 := by omega
        go_wp2
        go_round
        case rel =>
          refine ⟨d', rfl, by omega, fun j h1 h2 => ?_⟩
          rcases Nat.lt_or_ge (d') j with h | h
          · exact HZ.out j (by omega) h2
          · have : j = d' := by omega
            rw [this, ← HY.out]
            exact hy48
        case measure => simp [lenOf]
      · have hy' : (y == 48) = false := by simp [hy48]
        have HKe : Hid (K = d' + 1) := by
          refine Trim.unique HK.out ⟨by omega, by have := HN.out; omega, ?_, HZ.out⟩
          rw [show d' + 1 - 1 = d' by omega, ← HY.out]
          exact hy48
        have hne0 : (((d' + 1 : Nat) : Int) == 0) = false := by simp; omega
        clear hy48 HY HZ
        go_wp2_with (at_builtin; refine wpList_append_Own _ rfl (.tmp 70) (.tmp 71) rfl B (by simp; omega) v1 (L0 ++ X) rfl (hown1.mono hB1 ((Below.refl _ _).alloc (Nat.le_refl _) _)) ⟨w1.heap.size, 0, none⟩ 1 1 [46] rfl rfl (by omega) (one_new _ _ _) (by simp; omega) ?_)
        intro v2 w2 hown2 hbel2 _
        have hbw2 : Below B w w2 := (hbw1.alloc hB1 _).trans hbel2
        obtain ⟨T2, hT2⟩ : ∃ T2, T2 = L0 ++ X ++ [46] := ⟨_, rfl⟩
        have hown2' : Own B w2 v2 T2 := by rw [hT2]; simpa using hown2
        have HT2 : Hid (T2 = L0 ++ X ++ [46]) := hT2
        have hT2l : T2.length ≤ 5000000 := by rw [hT2]; simp; omega
        clear hbel2 hown2 hT2 hown1 HD1 hcy hy'
        go_wp2
        go_loopw [0, 75] (fun x i wr => ∃ (k : Nat) (T : List Int), k ≤ z ∧ i = .int .i64 k ∧ Hid (T = T2 ++ List.replicate k 48) ∧ Own B wr x T ∧ Below B w wr) (fun _ i _ => z - (intOf i).toNat)
        case atStart => exact ⟨0, T2, Nat.zero_le _, rfl, (show _ = _ by simp), hown2', hbw2⟩
        case round =>
          obtain ⟨k, T3, hk, rfl, HT3, hown3, hbw3⟩ := hrel
          clear hown2' hbw2
          have hB3 : B ≤ wr.heap.size := Nat.le_trans hB hbw3.size
          have hT3l : T3.length ≤ 6000000 := by rw [HT3.out]; simp; omega
          by_cases hlt : k < z
          · go_wp2_with (at_builtin; refine wpList_append_Own _ rfl (.tmp 77) (.tmp 78) rfl B (by simp; omega) _ T3 rfl (hown3.mono hB3 ((Below.refl _ _).alloc (Nat.le_refl _) _)) ⟨wr.heap.size, 0, none⟩ 1 1 [48] rfl rfl (by omega) (one_new _ _ _) (by omega) ?_)
            intro v4 w4 hown4 hbel4 _
            have hbw4 : Below B w w4 := (hbw3.alloc hB3 _).trans hbel4
            go_wp2
            go_roundw
            case rel => exact ⟨k + 1, T3 ++ [48], by omega, by go_num, (show _ = _ by rw [HT3.out, List.append_assoc, List.replicate_succ']), hown4, hbw4⟩
            case measure => simp [intOf]; omega
          · have hkz : k = z := by omega
            subst hkz
            clear hlt hk
            have hsrc := HD.out.src hbw3 (0) K
            have HSR : Hid (∀ j u, (((ds.take K).drop (0)).map (Value.int .u8))[j]? = some u → wr.cell? ((⟨bd, od, none⟩ : Addr).add j) = some u) := hsrc
            have HNL : Hid (((ds.take K).drop (0)).length = d' + 1) := (show _ = _ by have := HN.out; have := HKe.out; simp; omega)
            clear hsrc
            go_wp2_with (at_builtin; refine wpList_append_Own _ rfl (.tmp 81) (.tmp 82) rfl B hB3 _ T3 rfl hown3 ⟨bd, od, none⟩ (d' + 1) (cap) ((ds.take K).drop (0)) rfl HNL.out (by omega) HSR.out (by omega) ?_)
            intro v4 w4 hown4 hbel4 _
            go_wp2
            go_ret
            refine ⟨v4, rfl, ?_, hbw3.trans hbel4⟩
            have e1 : T3 ++ (ds.take K).drop (0) = L ++ scaledText false ds (-(pl : Int)) K := by
              rw [HT3.out, HT2.out, HL0.out, HX.out, text_low false (by rw [← HN.out]; exact HN2.out) hpl1]; simp
            rw [← e1]
            exact hown4

set_option maxRecDepth 100000 in
set_option maxHeartbeats 4000000 in
theorem scaled_zero_false (B : Nat) (v : Value) (L : List Int) (bd od cap : Nat) (ds : List Int) (pl : Nat) (K : Nat) (w : World) (hown : Own B w v L) (hB : B ≤ w.heap.size) (hl : L.length ≤ 2000000) (hdl : ds.length ≤ 2000000) (hdc : ds.length ≤ cap) (hd1 : 1 ≤ ds.length) (hD : DigAt B w bd od ds) (hK : Trim ds K) (hn : ds.length + 0 = pl) (hpl2 : pl ≤ 65536) :
    Calls Try.prog 24 #[v, .bool false, .slice (some ⟨bd, od, none⟩) ds.length cap, .int .i64 (-(pl : Int))] w (ScaledEnds B L false ds (-(pl : Int)) K w) := by
  have HD : Hid (DigAt B w bd od ds) := hD
  have HK : Hid (Trim ds K) := hK
  obtain ⟨n, hn'⟩ : ∃ n, n = ds.length := ⟨_, rfl⟩
  have HN : Hid (n = ds.length) := hn'
  rw [← hn'] at hdl hdc hd1 hn
  rw [← hn']
  clear hn' hK hD
  have hnI : (n : Int) - (pl : Int) = 0 := by omega
  have HN2 : Hid (n + 0 = pl) := hn
  have hpl1 : 1 ≤ pl := by omega
  clear hn
  have hbw0 : Below B w w := Below.refl _ _
  obtain ⟨L0, hL0⟩ : ∃ L0, L0 = L := ⟨_, rfl⟩
  have hl0 : L0.length ≤ 2000001 := by rw [hL0]; omega
  have HL0 : Hid (L0 = L ++ sg false) := (show _ = _ by rw [hL0]; simp [sg])
  rw [← hL0] at hown
  clear hL0
  go_enter Try.func24, Try.ntmps24
  go_wp2_with (at_builtin; refine wpList_append_Own _ rfl (.tmp 42) (.tmp 43) rfl B (by simp; omega) v L0 rfl (hown.mono hB ((Below.refl _ _).alloc (Nat.le_refl _) _)) ⟨w.heap.size, 0, none⟩ 1 1 [48] rfl rfl (by omega) (one_new _ _ _) (by omega) ?_)
  intro v1 w1 hown1 hbel1 _
  have hbw1 : Below B w w1 := (hbw0.alloc hB _).trans hbel1
  obtain ⟨X, hX⟩ : ∃ X : List Int, X = [48] := ⟨_, rfl⟩
  have hXl : X.length = 1 := by rw [hX]; rfl
  rw [← hX] at hown1
  have HX : Hid (X = [48]) := hX
  clear hbel1 hX
  go_wp2
  have hB1 : B ≤ w1.heap.size := Nat.le_trans hB hbw1.size
  have HD1 : Hid (∀ j, j < ds.length → w1.cell? ⟨bd, od + j, none⟩ = some (.int .u8 (ds.getD j 0))) := HD.out w1 hbw1
  go_loop [11] (fun f => ∃ d : Nat, f = .slice (some ⟨bd, od, none⟩) d (cap) ∧ d ≤ n ∧ Hid (∀ j, d ≤ j → j < ds.length → ds.getD j 0 = 48)) (fun f => lenOf f)
  case atStart => exact ⟨n, rfl, by omega, fun j h1 h2 => by have := HN.out; omega⟩
  case round =>
    obtain ⟨d, rfl, hdn, HZ⟩ := hrel
    rcases Nat.eq_zero_or_pos d with hd0 | hd0
    · subst hd0
      exfalso
      exact HK.out.2.2.1 (HZ.out (K - 1) (by omega) (by have := HK.out; have := this.2.1; have := HK.out.1; omega))
    · obtain ⟨d', rfl⟩ : ∃ d', d = d' + 1 := ⟨d - 1, by omega⟩
      have hcy := HD1.out (d') (by have := HN.out; omega)
      obtain ⟨y, hy⟩ : ∃ y, y = ds.getD (d') 0 := ⟨_, rfl⟩
      rw [← hy] at hcy
      have HY : Hid (y = ds.getD (d') 0) := hy
      clear hy
      have hlenI : (0 : Int) < ((d' + 1 : Nat) : Int) := by omega
      by_cases hy48 : y = 48
      · have hy' : (y == 48) = true := by simp [hy48]
        have hcapne : ¬ cap = 0 := by omega
        go_wp2
        go_round
        case rel =>
          refine ⟨d', rfl, by omega, fun j h1 h2 => ?_⟩
          rcases Nat.lt_or_ge (d') j with h | h
          · exact HZ.out j (by omega) h2
          · have : j = d' := by omega
            rw [this, ← HY.out]
            exact hy48
        case measure => simp [lenOf]
      · have hy' : (y == 48) = false := by simp [hy48]
        have HKe : Hid (K = d' + 1) := by
          refine Trim.unique HK.out ⟨by omega, by have := HN.out; omega, ?_, HZ.out⟩
          rw [show d' + 1 - 1 = d' by omega, ← HY.out]
          exact hy48
        have hne0 : (((d' + 1 : Nat) : Int) == 0) = false := by simp; omega
        clear hy48 HY HZ
        go_wp2_with (at_builtin; refine wpList_append_Own _ rfl (.tmp 70) (.tmp 71) rfl B (by simp; omega) v1 (L0 ++ X) rfl (hown1.mono hB1 ((Below.refl _ _).alloc (Nat.le_refl _) _)) ⟨w1.heap.size, 0, none⟩ 1 1 [46] rfl rfl (by omega) (one_new _ _ _) (by simp; omega) ?_)
        intro v2 w2 hown2 hbel2 _
        have hbw2 : Below B w w2 := (hbw1.alloc hB1 _).trans hbel2
        obtain ⟨T2, hT2⟩ : ∃ T2, T2 = L0 ++ X ++ [46] := ⟨_, rfl⟩
        have hown2' : Own B w2 v2 T2 := by rw [hT2]; simpa using hown2
        have HT2 : Hid (T2 = L0 ++ X ++ [46]) := hT2
        have hT2l : T2.length ≤ 5000000 := by rw [hT2]; simp; omega
        clear hbel2 hown2 hT2 hown1 HD1 hcy hy'
        have hB2 : B ≤ w2.heap.size := Nat.le_trans hB hbw2.size
        go_wp2
        refine wp_loop_rounds 1 ?_
        rw [rounds_succ]
        have hown3 := hown2'
        have hbw3 := hbw2
        have hB3 := hB2
        obtain ⟨T3, hT3⟩ : ∃ T3, T3 = T2 := ⟨_, rfl⟩
        obtain ⟨v3, hv3⟩ : ∃ v3, v3 = v2 := ⟨_, rfl⟩
        obtain ⟨w3, hw3⟩ : ∃ w3, w3 = w2 := ⟨_, rfl⟩
        have hT3l : T3.length ≤ 5000000 := by rw [hT3]; exact hT2l
        have HT3 : Hid (T3 = T2) := hT3
        rw [← hv3, ← hw3, ← hT3] at hown3
        rw [← hw3] at hbw3 hB3
        rw [← hv3, ← hw3]
        clear hT3 hv3 hw3 hown2' hbw2 hB2
        have hsrc := HD.out.src hbw3 (0) K
        have HSR : Hid (∀ j u, (((ds.take K).drop (0)).map (Value.int .u8))[j]? = some u → w3.cell? ((⟨bd, od, none⟩ : Addr).add j) = some u) := hsrc
        have HNL : Hid (((ds.take K).drop (0)).length = d' + 1) := (show _ = _ by have := HN.out; have := HKe.out; simp; omega)
        clear hsrc
        go_wp2_with (at_builtin; refine wpList_append_Own _ rfl (.tmp 81) (.tmp 82) rfl B hB3 v3 T3 rfl hown3 ⟨bd, od, none⟩ (d' + 1) (cap) ((ds.take K).drop (0)) rfl HNL.out (by omega) HSR.out (by omega) ?_)
        intro v4 w4 hown4 hbel4 _
        go_wp2
        go_ret
        refine ⟨v4, rfl, ?_, hbw3.trans hbel4⟩
        have e1 : T3 ++ (ds.take K).drop (0) = L ++ scaledText false ds (-(pl : Int)) K := by
          rw [HT3.out, HT2.out, HL0.out, HX.out, text_low false (z := 0) (by rw [← HN.out]; exact HN2.out) hpl1]; simp
        rw [← e1]
        exact hown4

set_option maxRecDepth 100000 in
set_option maxHeartbeats 2000000 in
theorem scaled_up_true (B : Nat) (v : Value) (L : List Int) (bd od cap : Nat) (ds : List Int) (e : Nat) (K : Nat) (w : World) (hown : Own B w v L) (hB : B ≤ w.heap.size) (hl : L.length ≤ 2000000) (hdl : ds.length ≤ 2000000) (hd1 : 1 ≤ ds.length) (hD : DigAt B w bd od ds) (he : e ≤ 65536) :
    Calls Try.prog 24 #[v, .bool true, .slice (some ⟨bd, od, none⟩) ds.length cap, .int .i64 e] w (ScaledEnds B L true ds e K w) := by
  have HD : Hid (DigAt B w bd od ds) := hD
  obtain ⟨n, hn⟩ : ∃ n, n = ds.length := ⟨_, rfl⟩
  have HN : Hid (n = ds.length) := hn
  rw [← hn] at hdl hd1
  rw [← hn]
  clear hn hD
  go_enter Try.func24, Try.ntmps24
  go_wp2_with (at_builtin; refine wpList_append_Own _ rfl (.tmp 13) (.tmp 14) rfl B (by simp; omega) v L rfl (hown.mono hB ((Below.refl _ _).alloc (Nat.le_refl _) _)) ⟨w.heap.size, 0, none⟩ 1 1 [45] rfl rfl (by omega) (one_new _ _ _) (by omega) ?_)
  intro v0 w0 hown0 hbel0 _
  have hbw0 : Below B w w0 := ((Below.refl _ _).alloc hB _).trans hbel0
  have hB0 : B ≤ w0.heap.size := Nat.le_trans hB hbw0.size
  obtain ⟨L0, hL0⟩ : ∃ L0, L0 = L ++ [45] := ⟨_, rfl⟩
  rw [← hL0] at hown0
  have hl0 : L0.length ≤ 2000001 := by rw [hL0]; simp; omega
  have HL0 : Hid (L0 = L ++ sg true) := hL0
  clear hL0 hbel0 hown
  have HS : Hid (∀ j u, ((ds.drop 0).map (Value.int .u8))[j]? = some u → w0.cell? ((⟨bd, od, none⟩ : Addr).add j) = some u) := by
    have := HD.out.src hbw0 0 ds.length
    simp only [List.take_length] at this
    exact this
  go_wp2_with (at_builtin; refine wpList_append_Own _ rfl (.tmp 18) (.tmp 19) rfl B hB0 v0 L0 rfl hown0 ⟨bd, od, none⟩ n cap ds rfl HN.out.symm (by omega) HS.out (by omega) ?_)
  intro v1 w1 hown1 hbel1 _
  have hbw1 : Below B w w1 := hbw0.trans hbel1
  have hB1 : B ≤ w1.heap.size := Nat.le_trans hB0 hbel1.size
  clear HS hbel1
  go_wp2
  go_loopw [0, 22] (fun x i wr => ∃ (k : Nat) (T : List Int), k ≤ e ∧ i = .int .i64 k ∧ Hid (T = L0 ++ ds ++ List.replicate k 48) ∧ Own B wr x T ∧ Below B w wr) (fun _ i _ => e - (intOf i).toNat)
  case atStart => exact ⟨0, _, Nat.zero_le _, rfl, (show _ = _ by simp), hown1, hbw1⟩
  case round =>
    obtain ⟨k, T, hk, rfl, HT, hownr, hbr⟩ := hrel
    clear hown1 hbw1
    have hBr : B ≤ wr.heap.size := Nat.le_trans (by omega) hbr.size
    have hTl : T.length ≤ 5000000 := by rw [HT.out]; have := HN.out; simp; omega
    by_cases hlt : k < e
    · go_wp2_with (at_builtin; refine wpList_append_Own _ rfl (.tmp 24) (.tmp 25) rfl B (by simp; omega) _ T rfl (hownr.mono hBr ((Below.refl _ _).alloc (Nat.le_refl _) _)) ⟨wr.heap.size, 0, none⟩ 1 1 [48] rfl rfl (by omega) (one_new _ _ _) (by omega) ?_)
      intro v2 w2 hown2 hbel2 _
      have hbw2 : Below B w w2 := (hbr.alloc hBr _).trans hbel2
      go_wp2
      go_roundw
      case rel => exact ⟨k + 1, T ++ [48], by omega, by go_num, (show _ = _ by rw [HT.out, List.append_assoc, List.replicate_succ']), hown2, hbw2⟩
      case measure => simp [intOf]; omega
    · have hke : k = e := by omega
      subst hke
      go_wp2
      go_ret
      refine ⟨_, rfl, ?_, hbr⟩
      have e1 : T = L ++ scaledText true ds k K := by
        rw [HT.out, HL0.out]
        simp [scaledText]
      rw [← e1]
      exact hownr

set_option maxRecDepth 100000 in
set_option maxHeartbeats 4000000 in
theorem scaled_mid_true (B : Nat) (v : Value) (L : List Int) (bd od cap : Nat) (ds : List Int) (pt pl : Nat) (K : Nat) (w : World) (hown : Own B w v L) (hB : B ≤ w.heap.size) (hl : L.length ≤ 2000000) (hdl : ds.length ≤ 2000000) (hdc : ds.length ≤ cap) (hd1 : 1 ≤ ds.length) (hD : DigAt B w bd od ds) (hK : Trim ds K) (hn : ds.length = pt + pl) (hpt : 1 ≤ pt) (hpl : 1 ≤ pl) (hpl2 : pl ≤ 65536) :
    Calls Try.prog 24 #[v, .bool true, .slice (some ⟨bd, od, none⟩) ds.length cap, .int .i64 (-(pl : Int))] w (ScaledEnds B L true ds (-(pl : Int)) K w) := by
  have HD : Hid (DigAt B w bd od ds) := hD
  have HK : Hid (Trim ds K) := hK
  obtain ⟨n, hn'⟩ : ∃ n, n = ds.length := ⟨_, rfl⟩
  have HN : Hid (n = ds.length) := hn'
  rw [← hn'] at hdl hdc hd1 hn
  rw [← hn']
  clear hn' hK hD
  have hpI : (0 : Int) < (pt : Int) := by omega
  have hnI : (n : Int) - (pl : Int) = (pt : Int) := by omega
  have HN2 : Hid (n = pt + pl) := hn
  have hptn : pt < n := by omega
  clear hn
  go_enter Try.func24, Try.ntmps24
  go_wp2_with (at_builtin; refine wpList_append_Own _ rfl (.tmp 13) (.tmp 14) rfl B (by simp; omega) v L rfl (hown.mono hB ((Below.refl _ _).alloc (Nat.le_refl _) _)) ⟨w.heap.size, 0, none⟩ 1 1 [45] rfl rfl (by omega) (one_new _ _ _) (by omega) ?_)
  intro v0 w0 hown0 hbel0 _
  have hbw0 : Below B w w0 := ((Below.refl _ _).alloc hB _).trans hbel0
  have hB0 : B ≤ w0.heap.size := Nat.le_trans hB hbw0.size
  obtain ⟨L0, hL0⟩ : ∃ L0, L0 = L ++ [45] := ⟨_, rfl⟩
  rw [← hL0] at hown0
  have hl0 : L0.length ≤ 2000001 := by rw [hL0]; simp; omega
  have HL0 : Hid (L0 = L ++ sg true) := hL0
  clear hL0 hbel0 hown
  have HS : Hid (∀ j u, ((ds.take pt).map (Value.int .u8))[j]? = some u → w0.cell? ((⟨bd, od, none⟩ : Addr).add j) = some u) := by
    have := HD.out.src hbw0 0 pt
    exact this
  have HTL : Hid ((ds.take pt).length = pt) := (show _ = _ by have := HN.out; simp; omega)
  go_wp2_with (at_builtin; refine wpList_append_Own _ rfl (.tmp 37) (.tmp 40) rfl B hB0 v0 L0 rfl hown0 ⟨bd, od, none⟩ pt cap (ds.take pt) rfl HTL.out (by omega) HS.out (by omega) ?_)
  intro v1 w1 hown1 hbel1 _
  have hbw1 : Below B w w1 := hbw0.trans hbel1
  obtain ⟨X, hX⟩ : ∃ X, X = ds.take pt := ⟨_, rfl⟩
  have hXl : X.length = pt := by rw [hX]; exact HTL.out
  rw [← hX] at hown1
  have HX : Hid (X = ds.take pt) := hX
  clear HS hbel1 HTL hX
  go_wp2
  have hB1 : B ≤ w1.heap.size := Nat.le_trans hB hbw1.size
  have HD1 : Hid (∀ j, j < ds.length → w1.cell? ⟨bd, od + j, none⟩ = some (.int .u8 (ds.getD j 0))) := HD.out w1 hbw1
  go_loop [11] (fun f => ∃ d : Nat, f = .slice (some ⟨bd, od + pt, none⟩) d (cap - pt) ∧ pt + d ≤ n ∧ Hid (∀ j, pt + d ≤ j → j < ds.length → ds.getD j 0 = 48)) (fun f => lenOf f)
  case atStart => exact ⟨n - pt, rfl, by omega, fun j h1 h2 => by have := HN.out; omega⟩
  case round =>
    obtain ⟨d, rfl, hdn, HZ⟩ := hrel
    rcases Nat.eq_zero_or_pos d with hd0 | hd0
    · subst hd0
      have HKp : Hid (K ≤ pt) := by
        show K ≤ pt
        rcases Nat.lt_or_ge pt K with h | h
        · exact absurd (HZ.out (K - 1) (by omega) (by have := HK.out.2.1; omega)) HK.out.2.2.1
        · exact h
      clear HD1
      go_wp2
      go_ret
      refine ⟨v1, rfl, ?_, hbw1⟩
      rw [text_mid_int true (by rw [← HN.out]; exact HN2.out) hpt hpl HKp.out, ← List.append_assoc, ← HL0.out, ← HX.out]
      exact hown1
    · obtain ⟨d', rfl⟩ : ∃ d', d = d' + 1 := ⟨d - 1, by omega⟩
      have hcy := HD1.out (pt + d') (by have := HN.out; omega)
      obtain ⟨y, hy⟩ : ∃ y, y = ds.getD (pt + d') 0 := ⟨_, rfl⟩
      rw [← hy, ← Nat.add_assoc] at hcy
      have HY : Hid (y = ds.getD (pt + d') 0) := hy
      clear hy
      have hlenI : (0 : Int) < ((d' + 1 : Nat) : Int) := by omega
      by_cases hy48 : y = 48
      · have hy' : (y == 48) = true := by simp [hy48]
        have hcapne : ¬ cap - pt = 0 := by omega
        go_wp2
        go_round
        case rel =>
          refine ⟨d', rfl, by omega, fun j h1 h2 => ?_⟩
          rcases Nat.lt_or_ge (pt + d') j with h | h
          · exact HZ.out j (by omega) h2
          · have : j = pt + d' := by omega
            rw [this, ← HY.out]
            exact hy48
        case measure => simp [lenOf]
      · have hy' : (y == 48) = false := by simp [hy48]
        have HKe : Hid (K = pt + d' + 1) := by
          refine Trim.unique HK.out ⟨by omega, by have := HN.out; omega, ?_, HZ.out⟩
          rw [show pt + d' + 1 - 1 = pt + d' by omega, ← HY.out]
          exact hy48
        have hne0 : (((d' + 1 : Nat) : Int) == 0) = false := by simp; omega
        clear hy48 HY HZ
        go_wp2_with (at_builtin; refine wpList_append_Own _ rfl (.tmp 70) (.tmp 71) rfl B (by simp; omega) v1 (L0 ++ X) rfl (hown1.mono hB1 ((Below.refl _ _).alloc (Nat.le_refl _) _)) ⟨w1.heap.size, 0, none⟩ 1 1 [46] rfl rfl (by omega) (one_new _ _ _) (by simp; omega) ?_)
        intro v2 w2 hown2 hbel2 _
        have hbw2 : Below B w w2 := (hbw1.alloc hB1 _).trans hbel2
        obtain ⟨T2, hT2⟩ : ∃ T2, T2 = L0 ++ X ++ [46] := ⟨_, rfl⟩
        have hown2' : Own B w2 v2 T2 := by rw [hT2]; simpa using hown2
        have HT2 : Hid (T2 = L0 ++ X ++ [46]) := hT2
        have hT2l : T2.length ≤ 5000000 := by rw [hT2]; simp; omega
        clear hbel2 hown2 hT2 hown1 HD1 hcy hy'
        have hB2 : B ≤ w2.heap.size := Nat.le_trans hB hbw2.size
        go_wp2
        refine wp_loop_rounds 1 ?_
        rw [rounds_succ]
        have hown3 := hown2'
        have hbw3 := hbw2
        have hB3 := hB2
        obtain ⟨T3, hT3⟩ : ∃ T3, T3 = T2 := ⟨_, rfl⟩
        obtain ⟨v3, hv3⟩ : ∃ v3, v3 = v2 := ⟨_, rfl⟩
        obtain ⟨w3, hw3⟩ : ∃ w3, w3 = w2 := ⟨_, rfl⟩
        have hT3l : T3.length ≤ 5000000 := by rw [hT3]; exact hT2l
        have HT3 : Hid (T3 = T2) := hT3
        rw [← hv3, ← hw3, ← hT3] at hown3
        rw [← hw3] at hbw3 hB3
        rw [← hv3, ← hw3]
        clear hT3 hv3 hw3 hown2' hbw2 hB2
        have hsrc := HD.out.src hbw3 (pt) K
        have HSR : Hid (∀ j u, (((ds.take K).drop (pt)).map (Value.int .u8))[j]? = some u → w3.cell? ((⟨bd, od + pt, none⟩ : Addr).add j) = some u) := hsrc
        have HNL : Hid (((ds.take K).drop (pt)).length = d' + 1) := (show _ = _ by have := HN.out; have := HKe.out; simp; omega)
        clear hsrc
        go_wp2_with (at_builtin; refine wpList_append_Own _ rfl (.tmp 81) (.tmp 82) rfl B hB3 v3 T3 rfl hown3 ⟨bd, od + pt, none⟩ (d' + 1) (cap - pt) ((ds.take K).drop (pt)) rfl HNL.out (by omega) HSR.out (by omega) ?_)
        intro v4 w4 hown4 hbel4 _
        go_wp2
        go_ret
        refine ⟨v4, rfl, ?_, hbw3.trans hbel4⟩
        have e1 : T3 ++ (ds.take K).drop (pt) = L ++ scaledText true ds (-(pl : Int)) K := by
          rw [HT3.out, HT2.out, HL0.out, HX.out, text_mid_frac true (by rw [← HN.out]; exact HN2.out) hpt hpl (by have := HKe.out; omega)]; simp
        rw [← e1]
        exact hown4

set_option maxRecDepth 100000 in
set_option maxHeartbeats 4000000 in
theorem scaled_low_true (B : Nat) (v : Value) (L : List Int) (bd od cap : Nat) (ds : List Int) (z pl : Nat) (K : Nat) (w : World) (hown : Own B w v L) (hB : B ≤ w.heap.size) (hl : L.length ≤ 2000000) (hdl : ds.length ≤ 2000000) (hdc : ds.length ≤ cap) (hd1 : 1 ≤ ds.length) (hD : DigAt B w bd od ds) (hK : Trim ds K) (hn : ds.length + z = pl) (hpl2 : pl ≤ 65536) (hz : 0 < z) :
    Calls Try.prog 24 #[v, .bool true, .slice (some ⟨bd, od, none⟩) ds.length cap, .int .i64 (-(pl : Int))] w (ScaledEnds B L true ds (-(pl : Int)) K w) := by
  have HD : Hid (DigAt B w bd od ds) := hD
  have HK : Hid (Trim ds K) := hK
  obtain ⟨n, hn'⟩ : ∃ n, n = ds.length := ⟨_, rfl⟩
  have HN : Hid (n = ds.length) := hn'
  rw [← hn'] at hdl hdc hd1 hn
  rw [← hn']
  clear hn' hK hD
  have hnI : (n : Int) - (pl : Int) = -(z : Int) := by omega
  have hpI : ¬ (0 : Int) < -(z : Int) := by omega
  have HN2 : Hid (n + z = pl) := hn
  have hpl1 : 1 ≤ pl := by omega
  clear hn
  go_enter Try.func24, Try.ntmps24
  go_wp2_with (at_builtin; refine wpList_append_Own _ rfl (.tmp 13) (.tmp 14) rfl B (by simp; omega) v L rfl (hown.mono hB ((Below.refl _ _).alloc (Nat.le_refl _) _)) ⟨w.heap.size, 0, none⟩ 1 1 [45] rfl rfl (by omega) (one_new _ _ _) (by omega) ?_)
  intro v0 w0 hown0 hbel0 _
  have hbw0 : Below B w w0 := ((Below.refl _ _).alloc hB _).trans hbel0
  have hB0 : B ≤ w0.heap.size := Nat.le_trans hB hbw0.size
  obtain ⟨L0, hL0⟩ : ∃ L0, L0 = L ++ [45] := ⟨_, rfl⟩
  rw [← hL0] at hown0
  have hl0 : L0.length ≤ 2000001 := by rw [hL0]; simp; omega
  have HL0 : Hid (L0 = L ++ sg true) := hL0
  clear hL0 hbel0 hown
  go_wp2_with (at_builtin; refine wpList_append_Own _ rfl (.tmp 42) (.tmp 43) rfl B (by simp; omega) v0 L0 rfl (hown0.mono hB0 ((Below.refl _ _).alloc (Nat.le_refl _) _)) ⟨w0.heap.size, 0, none⟩ 1 1 [48] rfl rfl (by omega) (one_new _ _ _) (by omega) ?_)
  intro v1 w1 hown1 hbel1 _
  have hbw1 : Below B w w1 := (hbw0.alloc hB0 _).trans hbel1
  obtain ⟨X, hX⟩ : ∃ X : List Int, X = [48] := ⟨_, rfl⟩
  have hXl : X.length = 1 := by rw [hX]; rfl
  rw [← hX] at hown1
  have HX : Hid (X = [48]) := hX
  clear hbel1 hX
  go_wp2
  have hB1 : B ≤ w1.heap.size := Nat.le_trans hB hbw1.size
  have HD1 : Hid (∀ j, j < ds.length → w1.cell? ⟨bd, od + j, none⟩ = some (.int .u8 (ds.getD j 0))) := HD.out w1 hbw1
  go_loop [11] (fun f => ∃ d : Nat, f = .slice (some ⟨bd, od, none⟩) d (cap) ∧ d ≤ n ∧ Hid (∀ j, d ≤ j → j < ds.length → ds.getD j 0 = 48)) (fun f => lenOf f)
  case atStart => exact ⟨n, rfl, by omega, fun j h1 h2 => by have := HN.out; omega⟩
  case round =>
    obtain ⟨d, rfl, hdn, HZ⟩ := hrel
    rcases Nat.eq_zero_or_pos d with hd0 | hd0
    · subst hd0
      exfalso
      exact HK.out.2.2.1 (HZ.out (K - 1) (by omega) (by have := HK.out; have := this.2.1; have := HK.out.1; omega))
    · obtain ⟨d', rfl⟩ : ∃ d', d = d' + 1 := ⟨d - 1, by omega⟩
      have hcy := HD1.out (d') (by have := HN.out; omega)
      obtain ⟨y, hy⟩ : ∃ y, y = ds.getD (d') 0 := ⟨_, rfl⟩
      rw [← hy] at hcy
      have HY : Hid (y = ds.getD (d') 0) := hy
      clear hy
      have hlenI : (0 : Int) < ((d' + 1 : Nat) : Int) := by omega
      by_cases hy48 : y = 48
      · have hy' : (y == 48) = true := by simp [hy48]
        have hcapne : ¬ cap = 0 := by omega
        go_wp2
        go_round
        case rel =>
          refine ⟨d', rfl, by omega, fun j h1 h2 => ?_⟩
          rcases Nat.lt_or_ge (d') j with h | h
          · exact HZ.out j (by omega) h2
          · have : j = d' := by omega
            rw [this, ← HY.out]
            exact hy48
        case measure => simp [lenOf]
      · have hy' : (y == 48) = false := by simp [hy48]
        have HKe : Hid (K = d' + 1) := by
          refine Trim.unique HK.out ⟨by omega, by have := HN.out; omega, ?_, HZ.out⟩
          rw [show d' + 1 - 1 = d' by omega, ← HY.out]
          exact hy48
        have hne0 : (((d' + 1 : Nat) : Int) == 0) = false := by simp; omega
        clear hy48 HY HZ
        go_wp2_with (at_builtin; refine wpList_append_Own _ rfl (.tmp 70) (.tmp 71) rfl B (by simp; omega) v1 (L0 ++ X) rfl (hown1.mono hB1 ((Below.refl _ _).alloc (Nat.le_refl _) _)) ⟨w1.heap.size, 0, none⟩ 1 1 [46] rfl rfl (by omega) (one_new _ _ _) (by simp; omega) ?_)
        intro v2 w2 hown2 hbel2 _
        have hbw2 : Below B w w2 := (hbw1.alloc hB1 _).trans hbel2
        obtain ⟨T2, hT2⟩ : ∃ T2, T2 = L0 ++ X ++ [46] := ⟨_, rfl⟩
        have hown2' : Own B w2 v2 T2 := by rw [hT2]; simpa using hown2
        have HT2 : Hid (T2 = L0 ++ X ++ [46]) := hT2
        have hT2l : T2.length ≤ 5000000 := by rw [hT2]; simp; omega
        clear hbel2 hown2 hT2 hown1 HD1 hcy hy'
        go_wp2
        go_loopw [0, 75] (fun x i wr => ∃ (k : Nat) (T : List Int), k ≤ z ∧ i = .int .i64 k ∧ Hid (T = T2 ++ List.replicate k 48) ∧ Own B wr x T ∧ Below B w wr) (fun _ i _ => z - (intOf i).toNat)
        case atStart => exact ⟨0, T2, Nat.zero_le _, rfl, (show _ = _ by simp), hown2', hbw2⟩
        case round =>
          obtain ⟨k, T3, hk, rfl, HT3, hown3, hbw3⟩ := hrel
          clear hown2' hbw2
          have hB3 : B ≤ wr.heap.size := Nat.le_trans hB hbw3.size
          have hT3l : T3.length ≤ 6000000 := by rw [HT3.out]; simp; omega
          by_cases hlt : k < z
          · go_wp2_with (at_builtin; refine wpList_append_Own _ rfl (.tmp 77) (.tmp 78) rfl B (by simp; omega) _ T3 rfl (hown3.mono hB3 ((Below.refl _ _).alloc (Nat.le_refl _) _)) ⟨wr.heap.size, 0, none⟩ 1 1 [48] rfl rfl (by omega) (one_new _ _ _) (by omega) ?_)
            intro v4 w4 hown4 hbel4 _
            have hbw4 : Below B w w4 := (hbw3.alloc hB3 _).trans hbel4
            go_wp2
            go_roundw
            case rel => exact ⟨k + 1, T3 ++ [48], by omega, by go_num, (show _ = _ by rw [HT3.out, List.append_assoc, List.replicate_succ']), hown4, hbw4⟩
            case measure => simp [intOf]; omega
          · have hkz : k = z := by omega
            subst hkz
            clear hlt hk
            have hsrc := HD.out.src hbw3 (0) K
            have HSR : Hid (∀ j u, (((ds.take K).drop (0)).map (Value.int .u8))[j]? = some u → wr.cell? ((⟨bd, od, none⟩ : Addr).add j) = some u) := hsrc
            have HNL : Hid (((ds.take K).drop (0)).length = d' + 1) := (show _ = _ by have := HN.out; have := HKe.out; simp; omega)
            clear hsrc
            go_wp2_with (at_builtin; refine wpList_append_Own _ rfl (.tmp 81) (.tmp 82) rfl B hB3 _ T3 rfl hown3 ⟨bd, od, none⟩ (d' + 1) (cap) ((ds.take K).drop (0)) rfl HNL.out (by omega) HSR.out (by omega) ?_)
            intro v4 w4 hown4 hbel4 _
            go_wp2
            go_ret
            refine ⟨v4, rfl, ?_, hbw3.trans hbel4⟩
            have e1 : T3 ++ (ds.take K).drop (0) = L ++ scaledText true ds (-(pl : Int)) K := by
              rw [HT3.out, HT2.out, HL0.out, HX.out, text_low true (by rw [← HN.out]; exact HN2.out) hpl1]; simp
            rw [← e1]
            exact hown4

set_option maxRecDepth 100000 in
set_option maxHeartbeats 4000000 in
theorem scaled_zero_true (B : Nat) (v : Value) (L : List Int) (bd od cap : Nat) (ds : List Int) (pl : Nat) (K : Nat) (w : World) (hown : Own B w v L) (hB : B ≤ w.heap.size) (hl : L.length ≤ 2000000) (hdl : ds.length ≤ 2000000) (hdc : ds.length ≤ cap) (hd1 : 1 ≤ ds.length) (hD : DigAt B w bd od ds) (hK : Trim ds K) (hn : ds.length + 0 = pl) (hpl2 : pl ≤ 65536) :
    Calls Try.prog 24 #[v, .bool true, .slice (some ⟨bd, od, none⟩) ds.length cap, .int .i64 (-(pl : Int))] w (ScaledEnds B L true ds (-(pl : Int)) K w) := by
  have HD : Hid (DigAt B w bd od ds) := hD
  have HK : Hid (Trim ds K) := hK
  obtain ⟨n, hn'⟩ : ∃ n, n = ds.length := ⟨_, rfl⟩
  have HN : Hid (n = ds.length) := hn'
  rw [← hn'] at hdl hdc hd1 hn
  rw [← hn']
  clear hn' hK hD
  have hnI : (n : Int) - (pl : Int) = 0 := by omega
  have HN2 : Hid (n + 0 = pl) := hn
  have hpl1 : 1 ≤ pl := by omega
  clear hn
  go_enter Try.func24, Try.ntmps24
  go_wp2_with (at_builtin; refine wpList_append_Own _ rfl (.tmp 13) (.tmp 14) rfl B (by simp; omega) v L rfl (hown.mono hB ((Below.refl _ _).alloc (Nat.le_refl _) _)) ⟨w.heap.size, 0, none⟩ 1 1 [45] rfl rfl (by omega) (one_new _ _ _) (by omega) ?_)
  intro v0 w0 hown0 hbel0 _
  have hbw0 : Below B w w0 := ((Below.refl _ _).alloc hB _).trans hbel0
  have hB0 : B ≤ w0.heap.size := Nat.le_trans hB hbw0.size
  obtain ⟨L0, hL0⟩ : ∃ L0, L0 = L ++ [45] := ⟨_, rfl⟩
  rw [← hL0] at hown0
  have hl0 : L0.length ≤ 2000001 := by rw [hL0]; simp; omega
  have HL0 : Hid (L0 = L ++ sg true) := hL0
  clear hL0 hbel0 hown
  go_wp2_with (at_builtin; refine wpList_append_Own _ rfl (.tmp 42) (.tmp 43) rfl B (by simp; omega) v0 L0 rfl (hown0.mono hB0 ((Below.refl _ _).alloc (Nat.le_refl _) _)) ⟨w0.heap.size, 0, none⟩ 1 1 [48] rfl rfl (by omega) (one_new _ _ _) (by omega) ?_)
  intro v1 w1 hown1 hbel1 _
  have hbw1 : Below B w w1 := (hbw0.alloc hB0 _).trans hbel1
  obtain ⟨X, hX⟩ : ∃ X : List Int, X = [48] := ⟨_, rfl⟩
  have hXl : X.length = 1 := by rw [hX]; rfl
  rw [← hX] at hown1
  have HX : Hid (X = [48]) := hX
  clear hbel1 hX
  go_wp2
  have hB1 : B ≤ w1.heap.size := Nat.le_trans hB hbw1.size
  have HD1 : Hid (∀ j, j < ds.length → w1.cell? ⟨bd, od + j, none⟩ = some (.int .u8 (ds.getD j 0))) := HD.out w1 hbw1
  go_loop [11] (fun f => ∃ d : Nat, f = .slice (some ⟨bd, od, none⟩) d (cap) ∧ d ≤ n ∧ Hid (∀ j, d ≤ j → j < ds.length → ds.getD j 0 = 48)) (fun f => lenOf f)
  case atStart => exact ⟨n, rfl, by omega, fun j h1 h2 => by have := HN.out; omega⟩
  case round =>
    obtain ⟨d, rfl, hdn, HZ⟩ := hrel
    rcases Nat.eq_zero_or_pos d with hd0 | hd0
    · subst hd0
      exfalso
      exact HK.out.2.2.1 (HZ.out (K - 1) (by omega) (by have := HK.out; have := this.2.1; have := HK.out.1; omega))
    · obtain ⟨d', rfl⟩ : ∃ d', d = d' + 1 := ⟨d - 1, by omega⟩
      have hcy := HD1.out (d') (by have := HN.out; omega)
      obtain ⟨y, hy⟩ : ∃ y, y = ds.getD (d') 0 := ⟨_, rfl⟩
      rw [← hy] at hcy
      have HY : Hid (y = ds.getD (d') 0) := hy
      clear hy
      have hlenI : (0 : Int) < ((d' + 1 : Nat) : Int) := by omega
      by_cases hy48 : y = 48
      · have hy' : (y == 48) = true := by simp [hy48]
        have hcapne : ¬ cap = 0 := by omega
        go_wp2
        go_round
        case rel =>
          refine ⟨d', rfl, by omega, fun j h1 h2 => ?_⟩
          rcases Nat.lt_or_ge (d') j with h | h
          · exact HZ.out j (by omega) h2
          · have : j = d' := by omega
            rw [this, ← HY.out]
            exact hy48
        case measure => simp [lenOf]
      · have hy' : (y == 48) = false := by simp [hy48]
        have HKe : Hid (K = d' + 1) := by
          refine Trim.unique HK.out ⟨by omega, by have := HN.out; omega, ?_, HZ.out⟩
          rw [show d' + 1 - 1 = d' by omega, ← HY.out]
          exact hy48
        have hne0 : (((d' + 1 : Nat) : Int) == 0) = false := by simp; omega
        clear hy48 HY HZ
        go_wp2_with (at_builtin; refine wpList_append_Own _ rfl (.tmp 70) (.tmp 71) rfl B (by simp; omega) v1 (L0 ++ X) rfl (hown1.mono hB1 ((Below.refl _ _).alloc (Nat.le_refl _) _)) ⟨w1.heap.size, 0, none⟩ 1 1 [46] rfl rfl (by omega) (one_new _ _ _) (by simp; omega) ?_)
        intro v2 w2 hown2 hbel2 _
        have hbw2 : Below B w w2 := (hbw1.alloc hB1 _).trans hbel2
        obtain ⟨T2, hT2⟩ : ∃ T2, T2 = L0 ++ X ++ [46] := ⟨_, rfl⟩
        have hown2' : Own B w2 v2 T2 := by rw [hT2]; simpa using hown2
        have HT2 : Hid (T2 = L0 ++ X ++ [46]) := hT2
        have hT2l : T2.length ≤ 5000000 := by rw [hT2]; simp; omega
        clear hbel2 hown2 hT2 hown1 HD1 hcy hy'
        have hB2 : B ≤ w2.heap.size := Nat.le_trans hB hbw2.size
        go_wp2
        refine wp_loop_rounds 1 ?_
        rw [rounds_succ]
        have hown3 := hown2'
        have hbw3 := hbw2
        have hB3 := hB2
        obtain ⟨T3, hT3⟩ : ∃ T3, T3 = T2 := ⟨_, rfl⟩
        obtain ⟨v3, hv3⟩ : ∃ v3, v3 = v2 := ⟨_, rfl⟩
        obtain ⟨w3, hw3⟩ : ∃ w3, w3 = w2 := ⟨_, rfl⟩
        have hT3l : T3.length ≤ 5000000 := by rw [hT3]; exact hT2l
        have HT3 : Hid (T3 = T2) := hT3
        rw [← hv3, ← hw3, ← hT3] at hown3
        rw [← hw3] at hbw3 hB3
        rw [← hv3, ← hw3]
        clear hT3 hv3 hw3 hown2' hbw2 hB2
        have hsrc := HD.out.src hbw3 (0) K
        have HSR : Hid (∀ j u, (((ds.take K).drop (0)).map (Value.int .u8))[j]? = some u → w3.cell? ((⟨bd, od, none⟩ : Addr).add j) = some u) := hsrc
        have HNL : Hid (((ds.take K).drop (0)).length = d' + 1) := (show _ = _ by have := HN.out; have := HKe.out; simp; omega)
        clear hsrc
        go_wp2_with (at_builtin; refine wpList_append_Own _ rfl (.tmp 81) (.tmp 82) rfl B hB3 v3 T3 rfl hown3 ⟨bd, od, none⟩ (d' + 1) (cap) ((ds.take K).drop (0)) rfl HNL.out (by omega) HSR.out (by omega) ?_)
        intro v4 w4 hown4 hbel4 _
        go_wp2
        go_ret
        refine ⟨v4, rfl, ?_, hbw3.trans hbel4⟩
        have e1 : T3 ++ (ds.take K).drop (0) = L ++ scaledText true ds (-(pl : Int)) K := by
          rw [HT3.out, HT2.out, HL0.out, HX.out, text_low true (z := 0) (by rw [← HN.out]; exact HN2.out) hpl1]; simp
        rw [← e1]
        exact hown4

theorem scaled_false (B : Nat) (v : Value) (L : List Int) (bd od cap : Nat) (ds : List Int) (exp : Int) (K : Nat) (w : World) (hown : Own B w v L) (hB : B ≤ w.heap.size) (hl : L.length ≤ 2000000) (hdl : ds.length ≤ 2000000) (hdc : ds.length ≤ cap) (hd1 : 1 ≤ ds.length) (hD : DigAt B w bd od ds) (hK : Trim ds K) (he0 : -65536 ≤ exp) (he1 : exp ≤ 65536) :
    Calls Try.prog 24 #[v, .bool false, .slice (some ⟨bd, od, none⟩) ds.length cap, .int .i64 exp] w (ScaledEnds B L false ds exp K w) := by
  by_cases h0 : 0 ≤ exp
  · obtain ⟨e, rfl⟩ : ∃ e : Nat, exp = (e : Int) := ⟨exp.toNat, by omega⟩
    exact scaled_up_false B v L bd od cap ds e K w hown hB hl hdl hd1 hD (by omega)
  · obtain ⟨pl, rfl⟩ : ∃ pl : Nat, exp = -(pl : Int) := ⟨(-exp).toNat, by omega⟩
    rcases Nat.lt_trichotomy pl ds.length with h | h | h
    · exact scaled_mid_false B v L bd od cap ds (ds.length - pl) pl K w hown hB hl hdl hdc hd1 hD hK (by omega) (by omega) (by omega) (by omega)
    · exact scaled_zero_false B v L bd od cap ds pl K w hown hB hl hdl hdc hd1 hD hK (by omega) (by omega)
    · exact scaled_low_false B v L bd od cap ds (pl - ds.length) pl K w hown hB hl hdl hdc hd1 hD hK (by omega) (by omega) (by omega)

theorem scaled_true (B : Nat) (v : Value) (L : List Int) (bd od cap : Nat) (ds : List Int) (exp : Int) (K : Nat) (w : World) (hown : Own B w v L) (hB : B ≤ w.heap.size) (hl : L.length ≤ 2000000) (hdl : ds.length ≤ 2000000) (hdc : ds.length ≤ cap) (hd1 : 1 ≤ ds.length) (hD : DigAt B w bd od ds) (hK : Trim ds K) (he0 : -65536 ≤ exp) (he1 : exp ≤ 65536) :
    Calls Try.prog 24 #[v, .bool true, .slice (some ⟨bd, od, none⟩) ds.length cap, .int .i64 exp] w (ScaledEnds B L true ds exp K w) := by
  by_cases h0 : 0 ≤ exp
  · obtain ⟨e, rfl⟩ : ∃ e : Nat, exp = (e : Int) := ⟨exp.toNat, by omega⟩
    exact scaled_up_true B v L bd od cap ds e K w hown hB hl hdl hd1 hD (by omega)
  · obtain ⟨pl, rfl⟩ : ∃ pl : Nat, exp = -(pl : Int) := ⟨(-exp).toNat, by omega⟩
    rcases Nat.lt_trichotomy pl ds.length with h | h | h
    · exact scaled_mid_true B v L bd od cap ds (ds.length - pl) pl K w hown hB hl hdl hdc hd1 hD hK (by omega) (by omega) (by omega) (by omega)
    · exact scaled_zero_true B v L bd od cap ds pl K w hown hB hl hdl hdc hd1 hD hK (by omega) (by omega)
    · exact scaled_low_true B v L bd od cap ds (pl - ds.length) pl K w hown hB hl hdl hdc hd1 hD hK (by omega) (by omega) (by omega)

theorem scaled_any (B : Nat) (v : Value) (L : List Int) (neg : Bool) (bd od cap : Nat) (ds : List Int) (exp : Int) (K : Nat) (w : World) (hown : Own B w v L) (hB : B ≤ w.heap.size) (hl : L.length ≤ 2000000) (hdl : ds.length ≤ 2000000) (hdc : ds.length ≤ cap) (hd1 : 1 ≤ ds.length) (hD : DigAt B w bd od ds) (hK : Trim ds K) (he0 : -65536 ≤ exp) (he1 : exp ≤ 65536) :
    Calls Try.prog 13 #[v, .bool neg, .slice (some ⟨bd, od, none⟩) ds.length cap, .int .i64 exp] w (ScaledEnds B L neg ds exp K w) := by
  have H : Calls Try.prog 24 #[v, .bool neg, .slice (some ⟨bd, od, none⟩) ds.length cap, .int .i64 exp] w (ScaledEnds B L neg ds exp K w) := by
    cases neg
    · exact scaled_false B v L bd od cap ds exp K w hown hB hl hdl hdc hd1 hD hK he0 he1
    · exact scaled_true B v L bd od cap ds exp K w hown hB hl hdl hdc hd1 hD hK he0 he1
  clear hD hK hown
  go_enter Try.func13, Try.ntmps13
  go_wp2_with fail
  refine H.mono ?_
  rintro e w' ⟨v', rfl, h⟩
  go_wp2
  go_ret
  exact ⟨v', rfl, h⟩
end Go.Proofs.Qxb6602909a
