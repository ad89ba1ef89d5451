/-
  zzDigitAt_dB1, zzModelScaled_dB1 and zzDigitsOK_dB1, by their contracts.
-/
import Derived.Test.Qxb6602909aBody
namespace Go.Proofs.Qxb6602909a
open Go.RowKit

theorem digitAt_any (bd od cap : Nat) (ds : List Int) (exp p : Int) (w : World) (hdl : ds.length ≤ 2000000) (he0 : -65536 ≤ exp) (he1 : exp ≤ 65536) (hp0 : -3000000 ≤ p) (hp1 : p ≤ 3000000)
    (hc : ∀ j, j < ds.length → w.cell? ⟨bd, od + j, none⟩ = some (.int .u8 (ds.getD j 0))) :
    Calls Try.prog 23 #[.slice (some ⟨bd, od, none⟩) ds.length cap, .int .i64 exp, .int .i64 p] w fun e w' => e = .returned (.int .u8 (digAt ds exp p)) ∧ w = w' := by
  have HA : Hid _ := @digAt_out ds exp p
  have HB : Hid (∀ i : Nat, (i : Int) = ds.length - 1 - (p - exp) → i < ds.length → digAt ds exp p = ds.getD i 0) := fun i h1 h2 => digAt_in h1 h2
  obtain ⟨n, hn⟩ : ∃ n, n = ds.length := ⟨_, rfl⟩
  rw [← hn] at HA HB hc hdl
  rw [← hn]
  clear hn
  by_cases h1 : (n : Int) - 1 - (p - exp) < 0
  · rw [HA.out (Or.inl h1)]
    clear HA HB hc
    go_enter Try.func23, Try.ntmps23
    go_wp2
    go_ret
    exact ⟨rfl, rfl⟩
  · by_cases h2 : (n : Int) ≤ (n : Int) - 1 - (p - exp)
    · rw [HA.out (Or.inr h2)]
      clear HA HB hc
      go_enter Try.func23, Try.ntmps23
      go_wp2
      go_ret
      exact ⟨rfl, rfl⟩
    · obtain ⟨i, hi⟩ : ∃ i : Nat, (i : Int) = (n : Int) - 1 - (p - exp) := ⟨((n : Int) - 1 - (p - exp)).toNat, by omega⟩
      rw [HB.out i hi (by omega)]
      have hci := hc i (by omega)
      obtain ⟨y, hy⟩ : ∃ y, y = ds.getD i 0 := ⟨_, rfl⟩
      rw [← hy] at hci
      rw [← hy]
      have hiI : (n : Int) - 1 - (p - exp) = (i : Int) := hi.symm
      have hin : i < n := by omega
      have hinI : (i : Int) < (n : Int) := by omega
      have hi0 : ¬ (i : Int) < 0 := by omega
      clear HA HB hc hy hi h1 h2
      go_enter Try.func23, Try.ntmps23
      go_wp2
      go_ret
      exact ⟨rfl, rfl⟩

def ModelEnds (B : Nat) (L : List Int) (neg : Bool) (ds : List Int) (exp : Int) (K : Nat) (w : World) (e : Ending) (w' : World) : Prop :=
  ∃ v', e = .returned v' ∧ Own B w' v' (L ++ scaledText neg ds exp K) ∧ Below B w w'

set_option maxRecDepth 100000 in
set_option maxHeartbeats 4000000 in
theorem model_false (a : Option Addr) (capL : Nat) (L : List Int) (bd od cap : Nat) (ds : List Int) (exp : Int) (K : Nat) (w : World) (hr : Row w a L) (hl : L.length ≤ 2000000) (hdl : ds.length ≤ 2000000) (hd1 : 1 ≤ ds.length) (hD : DigAt w.heap.size w bd od ds) (hK : Trim ds K) (he0 : -65536 ≤ exp) (he1 : exp ≤ 65536) :
    Calls Try.prog 12 #[.slice a L.length capL, .bool false, .slice (some ⟨bd, od, none⟩) ds.length cap, .int .i64 exp] w (ModelEnds w.heap.size L false ds exp K w) := by
  obtain ⟨i0, hi, hz0, hz1, hz2⟩ := info_parts Try.info5
  have HB : Hid (BodyIs ds exp K (scaledText false ds exp K)) := body_any ds exp K hd1 hK
  have HDA := fun (p : Int) (wx : World) (hb : Below w.heap.size w wx) (h1 : -3000000 ≤ p) (h2 : p ≤ 3000000) => digitAt_any bd od cap ds exp p wx hdl he0 he1 h1 h2 (hD wx hb)
  have HHI : Hid (hiOf ds exp = if exp + ds.length - 1 < 0 then 0 else exp + ds.length - 1) := rfl
  have HLO : Hid (lowOf ds exp K = if 0 < exp + (ds.length - K) then 0 else exp + (ds.length - K)) := rfl
  have HK : Hid (Trim ds K) := hK
  have HC0 : Hid (∀ j, j < ds.length → w.cell? ⟨bd, od + j, none⟩ = some (.int .u8 (ds.getD j 0))) := hD w (Below.refl _ _)
  obtain ⟨R, hR⟩ : ∃ R, R = scaledText false ds exp K := ⟨_, rfl⟩
  rw [← hR] at HB
  have HR : Hid (R = scaledText false ds exp K) := hR
  obtain ⟨n, hn⟩ : ∃ n, n = ds.length := ⟨_, rfl⟩
  have HN : Hid (n = ds.length) := hn
  rw [← hn] at HDA HHI HLO hdl hd1 HC0
  rw [← hn]
  obtain ⟨l, hL⟩ : ∃ l, l = L.length := ⟨_, rfl⟩
  have HL : Hid (l = L.length) := hL
  rw [← hL] at hl
  rw [← hL]
  have HDAt : Hid (∀ (p : Int) (wx : World), Below w.heap.size w wx → -3000000 ≤ p → p ≤ 3000000 → Calls Try.prog 23 #[.slice (some ⟨bd, od, none⟩) n cap, .int .i64 exp, .int .i64 p] wx fun e w' => e = .returned (.int .u8 (digAt ds exp p)) ∧ wx = w') := HDA
  clear hR hn hL hD hK HDA
  go_enter Try.func12, Try.ntmps12
  go_wp2
  go_loop [10] (fun i => ∃ j : Nat, i = .int .i64 j ∧ K ≤ j + 1 ∧ j + 1 ≤ n) (fun i => (intOf i).toNat)
  case atStart => exact ⟨n - 1, by go_num, by have := HK.out.2.1; have := HN.out; omega, by omega⟩
  case round =>
    obtain ⟨j, rfl, hj1, hj2⟩ := hrel
    have hcj := HC0.out j (by omega)
    obtain ⟨y, hy⟩ : ∃ y, y = ds.getD j 0 := ⟨_, rfl⟩
    rw [← hy] at hcj
    have HY : Hid (y = ds.getD j 0) := hy
    clear hy
    by_cases hgo : 0 < j ∧ y = 48
    · obtain ⟨hj0, hy48⟩ := hgo
      have hy' : (y == 48) = true := by simp [hy48]
      have hj0I : (0 : Int) < (j : Int) := by omega
      have hKj : K ≤ j := by
        rcases Nat.lt_or_ge j K with h | h
        · have hk : K - 1 = j := by omega
          exact absurd (by rw [hk, ← HY.out]; exact hy48) HK.out.2.2.1
        · exact h
      go_wp2
      go_round
      case rel => exact ⟨j - 1, by go_num, by omega, by omega⟩
      case measure => simp [intOf]; omega
    · have hKj : j + 1 = K := by
        rcases Nat.lt_or_ge j K with h | h
        · omega
        · exfalso
          have hk1 := HK.out.1
          have h1 := HK.out.2.2.2 j h (by have := HN.out; omega)
          rw [← HY.out] at h1
          exact hgo ⟨by omega, h1⟩
      have hst : ((0 : Int) < (j : Int) ∧ (y == 48) = false) ∨ ¬ (0 : Int) < (j : Int) := by
        rcases Nat.eq_zero_or_pos j with h | h
        · right; omega
        · left; exact ⟨by omega, by simp; intro h48; exact hgo ⟨h, h48⟩⟩
      have HKJ : Hid (j + 1 = K) := hKj
      have HLE : Hid ((j : Int) + 1 = (K : Int)) := (show _ = _ by omega)
      clear hgo hKj hj1 HY
      by_cases c1 : exp + (n : Int) - 1 < 0
      · obtain ⟨LO, hLO⟩ : ∃ LO : Int, LO = exp + ((n : Int) - 1 - (j : Int)) := ⟨_, rfl⟩
        have hHIe : hiOf ds exp = 0 := by rw [HHI.out, if_pos c1]
        have hLOe : lowOf ds exp K = LO := by rw [HLO.out]; have := HLE.out; rw [if_neg (by omega)]; omega
        have hLn : LO ≤ -1 := by omega
        have hLb : -3000000 ≤ LO := by omega
        have eLO : exp + ((n : Int) - 1 - (j : Int)) = LO := hLO.symm
        have HIE : Hid (hiOf ds exp = 0) := hHIe
        have LOE : Hid (lowOf ds exp K = LO) := hLOe
        clear hLO hHIe hLOe
        rcases hst with ⟨st1, st2⟩ | st1
        all_goals
          go_wp2_with (at_make; refine wpList_make_own _ rfl _ _ 22 rfl w.heap.size 5 i0 (.int .u8 0) 1 Try.underlying22 hi hz0 hz1 _ _ _ (l + (0 - LO : Int).toNat + 3) rfl rfl (by omega) (by rw [hz2]; omega) (by unfold maxLen; omega) (Nat.le_refl _) ?_)
          intro w1 hown1 hgrow1
          have hbw1 : Below w.heap.size w w1 := (Below.refl _ _).grown hgrow1 (Nat.le_refl _) (fun k hk => by cases hk)
          have hO1 : Own w.heap.size w1 _ [] := Or.inr hown1
          clear hown1 hgrow1 hcj
          have hRl : R.length ≤ 6000000 := by
            have h := HB.out.len
            rw [HIE.out, LOE.out] at h
            split at h <;> omega
          go_wp2
          go_loopw [14, 15] (fun x i wr => ∃ (k : Nat) (T : List Int), k ≤ l ∧ i = .int .i64 k ∧ Hid (T = L.take k) ∧ Own w.heap.size wr x T ∧ Below w.heap.size w wr) (fun _ i _ => l - (intOf i).toNat)
          case atStart => exact ⟨0, [], Nat.zero_le _, rfl, (show _ = _ by simp), hO1, hbw1⟩
          case round =>
            obtain ⟨k, T, hk, rfl, HT, hownr, hbr⟩ := hrel
            clear hO1 hbw1
            have hBr : w.heap.size ≤ wr.heap.size := hbr.size
            have hTl : T.length ≤ 2000000 := by rw [HT.out]; have := HL.out; simp; omega
            by_cases hlt : k < l
            · have hkL : k < L.length := by rw [← HL.out]; exact hlt
              obtain ⟨bp, op, rfl, hbp, hcp⟩ := hr.at (by omega)
              have hck := (hbr.cell (p := ⟨bp, op + k, none⟩) hbp).trans (hcp k hkL)
              obtain ⟨x, hx⟩ : ∃ x, x = L.getD k 0 := ⟨_, rfl⟩
              rw [← hx] at hck
              have HX : Hid (x = L.getD k 0) := hx
              clear hx hcp hr
              go_wp2_with (at_builtin; refine wpList_append_Own _ rfl (.tmp 61) (.tmp 66) rfl w.heap.size (by simp; omega) _ T rfl (hownr.mono hBr ((Below.refl _ _).alloc (Nat.le_refl _) _)) ⟨wr.heap.size, 0, none⟩ 1 1 [x] rfl rfl (by omega) (one_new _ _ _) (by omega) ?_)
              intro v2 w2 hown2 hbel2 _
              have hbw2 : Below w.heap.size w w2 := (hbr.alloc hBr _).trans hbel2
              go_wp2
              go_roundw
              case rel => exact ⟨k + 1, T ++ [x], by omega, by go_num, (show _ = _ by rw [HT.out, HX.out]; exact take_snoc_getD hkL), hown2, hbw2⟩
              case measure => simp [intOf]; omega
            · have hTL : T = L := by rw [HT.out]; exact List.take_of_length_le (by rw [← HL.out]; omega)
              clear hr HT
              have HT0 : Hid (T = L ++ sg false) := (show _ = _ by rw [hTL]; simp [sg])
              have hO3 := hownr
              have hbw3 := hbr
              obtain ⟨T0, hT0⟩ : ∃ T0, T0 = T := ⟨_, rfl⟩
              rw [← hT0] at hO3 HT0
              clear hT0 hownr hbr hTL
              go_wp2
              go_loopw [14, 16] (fun x i wr => ∃ (p : Int) (T : List Int), LO - 1 ≤ p ∧ p ≤ 0 ∧ i = .int .i64 p ∧ Hid (T = L ++ sg false ++ R.take (idx 0 p)) ∧ Own w.heap.size wr x T ∧ Below w.heap.size w wr) (fun _ i _ => (intOf i - (LO - 1)).toNat)
              case atStart =>
                refine ⟨0, T0, by omega, by omega, rfl, ?_, hO3, hbw3⟩
                show _ = _
                have h := body_start ds exp R
                rw [HIE.out] at h
                rw [h, HT0.out, List.append_nil]
              case round =>
                obtain ⟨p, T, hp1, hp2, rfl, HT, hownr3, hbr3⟩ := hrel
                clear hO3 hbw3
                have hBr3 : w.heap.size ≤ wr.heap.size := hbr3.size
                have hTl3 : T.length ≤ 9000000 := by
                  have h1 : T.length ≤ L.length + 1 + R.length := by rw [HT.out]; simp [sg]; omega
                  have := HL.out
                  omega
                by_cases hge : LO ≤ p
                · by_cases hm1 : p = -1
                  · subst hm1
                    have HST : Hid (T ++ [46] ++ [digAt ds exp (-1)] = L ++ sg false ++ R.take (idx 0 (-1 - 1))) := by
                      have h := body_dot HB.out (by rw [LOE.out]; omega)
                      rw [HIE.out] at h
                      show _ = _
                      rw [HT.out, ← h]
                      simp
                    go_wp2_with (at_builtin; refine wpList_append_Own _ rfl (.tmp 80) (.tmp 81) rfl w.heap.size (by simp; omega) _ T rfl (hownr3.mono hBr3 ((Below.refl _ _).alloc (Nat.le_refl _) _)) ⟨wr.heap.size, 0, none⟩ 1 1 [46] rfl rfl (by omega) (one_new _ _ _) (by omega) ?_)
                    intro v4 w4 hown4 hbel4 _
                    have hbw4 : Below w.heap.size w w4 := (hbr3.alloc hBr3 _).trans hbel4
                    have hB4 : w.heap.size ≤ w4.heap.size := hbw4.size
                    go_wp2_with fail
                    refine (HDAt.out _ w4 hbw4 (by omega) (by omega)).mono ?_
                    rintro e w' ⟨rfl, rfl⟩
                    obtain ⟨dg, hdg⟩ : ∃ dg, dg = digAt ds exp (-1) := ⟨_, rfl⟩
                    rw [← hdg] at HST
                    simp only [← hdg]
                    clear hdg
                    go_wp2_with (at_builtin; refine wpList_append_Own _ rfl (.tmp 83) (.tmp 88) rfl w.heap.size (by simp; omega) _ (T ++ [46]) rfl (hown4.mono hB4 ((Below.refl _ _).alloc (Nat.le_refl _) _)) ⟨w4.heap.size, 0, none⟩ 1 1 [dg] rfl rfl (by omega) (one_new _ _ _) (by simp; omega) ?_)
                    intro v5 w5 hown5 hbel5 _
                    have hbw5 : Below w.heap.size w w5 := (hbw4.alloc hB4 _).trans hbel5
                    have hown5' : Own w.heap.size w5 v5 (T ++ [46] ++ [dg]) := by simpa using hown5
                    go_wp2
                    go_roundw
                    case rel => exact ⟨-1 - 1, T ++ [46] ++ [dg], by omega, by omega, rfl, HST, hown5', hbw5⟩
                    case measure => simp [intOf] <;> omega
                  · have hm1' : (p == -1) = false := by simp [hm1]
                    have HST : Hid (T ++ [digAt ds exp p] = L ++ sg false ++ R.take (idx 0 (p - 1))) := by
                      have h := body_step HB.out (p := p) (by rw [LOE.out]; omega) (by rw [HIE.out]; omega) hm1
                      rw [HIE.out] at h
                      show _ = _
                      rw [HT.out, ← h]
                      simp
                    go_wp2_with fail
                    refine (HDAt.out _ wr hbr3 (by omega) (by omega)).mono ?_
                    rintro e w' ⟨rfl, rfl⟩
                    obtain ⟨dg, hdg⟩ : ∃ dg, dg = digAt ds exp p := ⟨_, rfl⟩
                    rw [← hdg] at HST
                    simp only [← hdg]
                    clear hdg
                    go_wp2_with (at_builtin; refine wpList_append_Own _ rfl (.tmp 83) (.tmp 88) rfl w.heap.size (by simp; omega) _ T rfl (hownr3.mono hBr3 ((Below.refl _ _).alloc (Nat.le_refl _) _)) ⟨wr.heap.size, 0, none⟩ 1 1 [dg] rfl rfl (by omega) (one_new _ _ _) (by omega) ?_)
                    intro v5 w5 hown5 hbel5 _
                    have hbw5 : Below w.heap.size w w5 := (hbr3.alloc hBr3 _).trans hbel5
                    go_wp2
                    go_roundw
                    case rel => exact ⟨p - 1, T ++ [dg], by omega, by omega, rfl, HST, hown5, hbw5⟩
                    case measure => simp [intOf] <;> omega
                · have hpe : p = LO - 1 := by omega
                  have hge2 : p < LO := by omega
                  have hfin : T = L ++ scaledText false ds exp K := by
                    have h := body_end HB.out
                    rw [HIE.out, LOE.out] at h
                    rw [HT.out, hpe, h, List.append_assoc, sg_scaled false ds exp K, ← HR.out]
                  clear hpe hge
                  go_wp2
                  go_ret
                  refine ⟨_, rfl, ?_, hbr3⟩
                  rw [← hfin]
                  exact hownr3
      · by_cases c2 : 0 < exp + ((n : Int) - 1 - (j : Int))
        · obtain ⟨HI, hHI⟩ : ∃ HI : Int, HI = exp + (n : Int) - 1 := ⟨_, rfl⟩
          have hHIe : hiOf ds exp = HI := by rw [HHI.out, if_neg c1, hHI]
          have hLOe : lowOf ds exp K = 0 := by rw [HLO.out]; have := HLE.out; rw [if_pos (by omega)]
          have hHn : 0 ≤ HI := by omega
          have hHb : HI ≤ 2100000 := by omega
          have eHI : exp + (n : Int) - 1 = HI := hHI.symm
          have HIE : Hid (hiOf ds exp = HI) := hHIe
          have LOE : Hid (lowOf ds exp K = 0) := hLOe
          clear hHI hHIe hLOe
          rcases hst with ⟨st1, st2⟩ | st1
          all_goals
            go_wp2_with (at_make; refine wpList_make_own _ rfl _ _ 22 rfl w.heap.size 5 i0 (.int .u8 0) 1 Try.underlying22 hi hz0 hz1 _ _ _ (l + (HI - 0 : Int).toNat + 3) rfl rfl (by omega) (by rw [hz2]; omega) (by unfold maxLen; omega) (Nat.le_refl _) ?_)
            intro w1 hown1 hgrow1
            have hbw1 : Below w.heap.size w w1 := (Below.refl _ _).grown hgrow1 (Nat.le_refl _) (fun k hk => by cases hk)
            have hO1 : Own w.heap.size w1 _ [] := Or.inr hown1
            clear hown1 hgrow1 hcj
            have hRl : R.length ≤ 6000000 := by
              have h := HB.out.len
              rw [HIE.out, LOE.out] at h
              split at h <;> omega
            go_wp2
            go_loopw [14, 15] (fun x i wr => ∃ (k : Nat) (T : List Int), k ≤ l ∧ i = .int .i64 k ∧ Hid (T = L.take k) ∧ Own w.heap.size wr x T ∧ Below w.heap.size w wr) (fun _ i _ => l - (intOf i).toNat)
            case atStart => exact ⟨0, [], Nat.zero_le _, rfl, (show _ = _ by simp), hO1, hbw1⟩
            case round =>
              obtain ⟨k, T, hk, rfl, HT, hownr, hbr⟩ := hrel
              clear hO1 hbw1
              have hBr : w.heap.size ≤ wr.heap.size := hbr.size
              have hTl : T.length ≤ 2000000 := by rw [HT.out]; have := HL.out; simp; omega
              by_cases hlt : k < l
              · have hkL : k < L.length := by rw [← HL.out]; exact hlt
                obtain ⟨bp, op, rfl, hbp, hcp⟩ := hr.at (by omega)
                have hck := (hbr.cell (p := ⟨bp, op + k, none⟩) hbp).trans (hcp k hkL)
                obtain ⟨x, hx⟩ : ∃ x, x = L.getD k 0 := ⟨_, rfl⟩
                rw [← hx] at hck
                have HX : Hid (x = L.getD k 0) := hx
                clear hx hcp hr
                go_wp2_with (at_builtin; refine wpList_append_Own _ rfl (.tmp 61) (.tmp 66) rfl w.heap.size (by simp; omega) _ T rfl (hownr.mono hBr ((Below.refl _ _).alloc (Nat.le_refl _) _)) ⟨wr.heap.size, 0, none⟩ 1 1 [x] rfl rfl (by omega) (one_new _ _ _) (by omega) ?_)
                intro v2 w2 hown2 hbel2 _
                have hbw2 : Below w.heap.size w w2 := (hbr.alloc hBr _).trans hbel2
                go_wp2
                go_roundw
                case rel => exact ⟨k + 1, T ++ [x], by omega, by go_num, (show _ = _ by rw [HT.out, HX.out]; exact take_snoc_getD hkL), hown2, hbw2⟩
                case measure => simp [intOf]; omega
              · have hTL : T = L := by rw [HT.out]; exact List.take_of_length_le (by rw [← HL.out]; omega)
                clear hr HT
                have HT0 : Hid (T = L ++ sg false) := (show _ = _ by rw [hTL]; simp [sg])
                have hO3 := hownr
                have hbw3 := hbr
                obtain ⟨T0, hT0⟩ : ∃ T0, T0 = T := ⟨_, rfl⟩
                rw [← hT0] at hO3 HT0
                clear hT0 hownr hbr hTL
                go_wp2
                go_loopw [14, 16] (fun x i wr => ∃ (p : Int) (T : List Int), 0 - 1 ≤ p ∧ p ≤ HI ∧ i = .int .i64 p ∧ Hid (T = L ++ sg false ++ R.take (idx HI p)) ∧ Own w.heap.size wr x T ∧ Below w.heap.size w wr) (fun _ i _ => (intOf i - (0 - 1)).toNat)
                case atStart =>
                  refine ⟨HI, T0, by omega, by omega, rfl, ?_, hO3, hbw3⟩
                  show _ = _
                  have h := body_start ds exp R
                  rw [HIE.out] at h
                  rw [h, HT0.out, List.append_nil]
                case round =>
                  obtain ⟨p, T, hp1, hp2, rfl, HT, hownr3, hbr3⟩ := hrel
                  clear hO3 hbw3
                  have hBr3 : w.heap.size ≤ wr.heap.size := hbr3.size
                  have hTl3 : T.length ≤ 9000000 := by
                    have h1 : T.length ≤ L.length + 1 + R.length := by rw [HT.out]; simp [sg]; omega
                    have := HL.out
                    omega
                  by_cases hge : 0 ≤ p
                  · by_cases hm1 : p = -1
                    · exfalso
                      omega
                    · have hm1' : (p == -1) = false := by simp [hm1]
                      have HST : Hid (T ++ [digAt ds exp p] = L ++ sg false ++ R.take (idx HI (p - 1))) := by
                        have h := body_step HB.out (p := p) (by rw [LOE.out]; omega) (by rw [HIE.out]; omega) hm1
                        rw [HIE.out] at h
                        show _ = _
                        rw [HT.out, ← h]
                        simp
                      go_wp2_with fail
                      refine (HDAt.out _ wr hbr3 (by omega) (by omega)).mono ?_
                      rintro e w' ⟨rfl, rfl⟩
                      obtain ⟨dg, hdg⟩ : ∃ dg, dg = digAt ds exp p := ⟨_, rfl⟩
                      rw [← hdg] at HST
                      simp only [← hdg]
                      clear hdg
                      go_wp2_with (at_builtin; refine wpList_append_Own _ rfl (.tmp 83) (.tmp 88) rfl w.heap.size (by simp; omega) _ T rfl (hownr3.mono hBr3 ((Below.refl _ _).alloc (Nat.le_refl _) _)) ⟨wr.heap.size, 0, none⟩ 1 1 [dg] rfl rfl (by omega) (one_new _ _ _) (by omega) ?_)
                      intro v5 w5 hown5 hbel5 _
                      have hbw5 : Below w.heap.size w w5 := (hbr3.alloc hBr3 _).trans hbel5
                      go_wp2
                      go_roundw
                      case rel => exact ⟨p - 1, T ++ [dg], by omega, by omega, rfl, HST, hown5, hbw5⟩
                      case measure => simp [intOf] <;> omega
                  · have hpe : p = 0 - 1 := by omega
                    have hge2 : p < 0 := by omega
                    have hfin : T = L ++ scaledText false ds exp K := by
                      have h := body_end HB.out
                      rw [HIE.out, LOE.out] at h
                      rw [HT.out, hpe, h, List.append_assoc, sg_scaled false ds exp K, ← HR.out]
                    clear hpe hge
                    go_wp2
                    go_ret
                    refine ⟨_, rfl, ?_, hbr3⟩
                    rw [← hfin]
                    exact hownr3
        · obtain ⟨HI, hHI⟩ : ∃ HI : Int, HI = exp + (n : Int) - 1 := ⟨_, rfl⟩
          obtain ⟨LO, hLO⟩ : ∃ LO : Int, LO = exp + ((n : Int) - 1 - (j : Int)) := ⟨_, rfl⟩
          have hHIe : hiOf ds exp = HI := by rw [HHI.out, if_neg c1, hHI]
          have hLOe : lowOf ds exp K = LO := by rw [HLO.out]; have := HLE.out; rw [if_neg (by omega)]; omega
          have hHn : 0 ≤ HI := by omega
          have hHb : HI ≤ 2100000 := by omega
          have hLn : LO ≤ 0 := by omega
          have hLb : -3000000 ≤ LO := by omega
          have eHI : exp + (n : Int) - 1 = HI := hHI.symm
          have eLO : exp + ((n : Int) - 1 - (j : Int)) = LO := hLO.symm
          have c1' : ¬ HI < 0 := by omega
          have c2' : ¬ 0 < LO := by omega
          have HIE : Hid (hiOf ds exp = HI) := hHIe
          have LOE : Hid (lowOf ds exp K = LO) := hLOe
          clear hHI hLO hHIe hLOe c1 c2
          rcases (show LO = 0 ∨ LO ≤ -1 by omega) with hL0 | hL1
          · subst hL0
            rcases hst with ⟨st1, st2⟩ | st1
            all_goals
              go_wp2_with (at_make; refine wpList_make_own _ rfl _ _ 22 rfl w.heap.size 5 i0 (.int .u8 0) 1 Try.underlying22 hi hz0 hz1 _ _ _ (l + (HI - 0 : Int).toNat + 3) rfl rfl (by omega) (by rw [hz2]; omega) (by unfold maxLen; omega) (Nat.le_refl _) ?_)
              intro w1 hown1 hgrow1
              have hbw1 : Below w.heap.size w w1 := (Below.refl _ _).grown hgrow1 (Nat.le_refl _) (fun k hk => by cases hk)
              have hO1 : Own w.heap.size w1 _ [] := Or.inr hown1
              clear hown1 hgrow1 hcj
              have hRl : R.length ≤ 6000000 := by
                have h := HB.out.len
                rw [HIE.out, LOE.out] at h
                split at h <;> omega
              go_wp2
              go_loopw [14, 15] (fun x i wr => ∃ (k : Nat) (T : List Int), k ≤ l ∧ i = .int .i64 k ∧ Hid (T = L.take k) ∧ Own w.heap.size wr x T ∧ Below w.heap.size w wr) (fun _ i _ => l - (intOf i).toNat)
              case atStart => exact ⟨0, [], Nat.zero_le _, rfl, (show _ = _ by simp), hO1, hbw1⟩
              case round =>
                obtain ⟨k, T, hk, rfl, HT, hownr, hbr⟩ := hrel
                clear hO1 hbw1
                have hBr : w.heap.size ≤ wr.heap.size := hbr.size
                have hTl : T.length ≤ 2000000 := by rw [HT.out]; have := HL.out; simp; omega
                by_cases hlt : k < l
                · have hkL : k < L.length := by rw [← HL.out]; exact hlt
                  obtain ⟨bp, op, rfl, hbp, hcp⟩ := hr.at (by omega)
                  have hck := (hbr.cell (p := ⟨bp, op + k, none⟩) hbp).trans (hcp k hkL)
                  obtain ⟨x, hx⟩ : ∃ x, x = L.getD k 0 := ⟨_, rfl⟩
                  rw [← hx] at hck
                  have HX : Hid (x = L.getD k 0) := hx
                  clear hx hcp hr
                  go_wp2_with (at_builtin; refine wpList_append_Own _ rfl (.tmp 61) (.tmp 66) rfl w.heap.size (by simp; omega) _ T rfl (hownr.mono hBr ((Below.refl _ _).alloc (Nat.le_refl _) _)) ⟨wr.heap.size, 0, none⟩ 1 1 [x] rfl rfl (by omega) (one_new _ _ _) (by omega) ?_)
                  intro v2 w2 hown2 hbel2 _
                  have hbw2 : Below w.heap.size w w2 := (hbr.alloc hBr _).trans hbel2
                  go_wp2
                  go_roundw
                  case rel => exact ⟨k + 1, T ++ [x], by omega, by go_num, (show _ = _ by rw [HT.out, HX.out]; exact take_snoc_getD hkL), hown2, hbw2⟩
                  case measure => simp [intOf]; omega
                · have hTL : T = L := by rw [HT.out]; exact List.take_of_length_le (by rw [← HL.out]; omega)
                  clear hr HT
                  have HT0 : Hid (T = L ++ sg false) := (show _ = _ by rw [hTL]; simp [sg])
                  have hO3 := hownr
                  have hbw3 := hbr
                  obtain ⟨T0, hT0⟩ : ∃ T0, T0 = T := ⟨_, rfl⟩
                  rw [← hT0] at hO3 HT0
                  clear hT0 hownr hbr hTL
                  go_wp2
                  go_loopw [14, 16] (fun x i wr => ∃ (p : Int) (T : List Int), 0 - 1 ≤ p ∧ p ≤ HI ∧ i = .int .i64 p ∧ Hid (T = L ++ sg false ++ R.take (idx HI p)) ∧ Own w.heap.size wr x T ∧ Below w.heap.size w wr) (fun _ i _ => (intOf i - (0 - 1)).toNat)
                  case atStart =>
                    refine ⟨HI, T0, by omega, by omega, rfl, ?_, hO3, hbw3⟩
                    show _ = _
                    have h := body_start ds exp R
                    rw [HIE.out] at h
                    rw [h, HT0.out, List.append_nil]
                  case round =>
                    obtain ⟨p, T, hp1, hp2, rfl, HT, hownr3, hbr3⟩ := hrel
                    clear hO3 hbw3
                    have hBr3 : w.heap.size ≤ wr.heap.size := hbr3.size
                    have hTl3 : T.length ≤ 9000000 := by
                      have h1 : T.length ≤ L.length + 1 + R.length := by rw [HT.out]; simp [sg]; omega
                      have := HL.out
                      omega
                    by_cases hge : 0 ≤ p
                    · by_cases hm1 : p = -1
                      · exfalso
                        omega
                      · have hm1' : (p == -1) = false := by simp [hm1]
                        have HST : Hid (T ++ [digAt ds exp p] = L ++ sg false ++ R.take (idx HI (p - 1))) := by
                          have h := body_step HB.out (p := p) (by rw [LOE.out]; omega) (by rw [HIE.out]; omega) hm1
                          rw [HIE.out] at h
                          show _ = _
                          rw [HT.out, ← h]
                          simp
                        go_wp2_with fail
                        refine (HDAt.out _ wr hbr3 (by omega) (by omega)).mono ?_
                        rintro e w' ⟨rfl, rfl⟩
                        obtain ⟨dg, hdg⟩ : ∃ dg, dg = digAt ds exp p := ⟨_, rfl⟩
                        rw [← hdg] at HST
                        simp only [← hdg]
                        clear hdg
                        go_wp2_with (at_builtin; refine wpList_append_Own _ rfl (.tmp 83) (.tmp 88) rfl w.heap.size (by simp; omega) _ T rfl (hownr3.mono hBr3 ((Below.refl _ _).alloc (Nat.le_refl _) _)) ⟨wr.heap.size, 0, none⟩ 1 1 [dg] rfl rfl (by omega) (one_new _ _ _) (by omega) ?_)
                        intro v5 w5 hown5 hbel5 _
                        have hbw5 : Below w.heap.size w w5 := (hbr3.alloc hBr3 _).trans hbel5
                        go_wp2
                        go_roundw
                        case rel => exact ⟨p - 1, T ++ [dg], by omega, by omega, rfl, HST, hown5, hbw5⟩
                        case measure => simp [intOf] <;> omega
                    · have hpe : p = 0 - 1 := by omega
                      have hge2 : p < 0 := by omega
                      have hfin : T = L ++ scaledText false ds exp K := by
                        have h := body_end HB.out
                        rw [HIE.out, LOE.out] at h
                        rw [HT.out, hpe, h, List.append_assoc, sg_scaled false ds exp K, ← HR.out]
                      clear hpe hge
                      go_wp2
                      go_ret
                      refine ⟨_, rfl, ?_, hbr3⟩
                      rw [← hfin]
                      exact hownr3
          · rcases hst with ⟨st1, st2⟩ | st1
            · skip
              go_wp2_with (at_make; refine wpList_make_own _ rfl _ _ 22 rfl w.heap.size 5 i0 (.int .u8 0) 1 Try.underlying22 hi hz0 hz1 _ _ _ (l + (HI - LO : Int).toNat + 3) rfl rfl (by omega) (by rw [hz2]; omega) (by unfold maxLen; omega) (Nat.le_refl _) ?_)
              intro w1 hown1 hgrow1
              have hbw1 : Below w.heap.size w w1 := (Below.refl _ _).grown hgrow1 (Nat.le_refl _) (fun k hk => by cases hk)
              have hO1 : Own w.heap.size w1 _ [] := Or.inr hown1
              clear hown1 hgrow1 hcj
              have hRl : R.length ≤ 6000000 := by
                have h := HB.out.len
                rw [HIE.out, LOE.out] at h
                split at h <;> omega
              go_wp2
              go_loopw [14, 15] (fun x i wr => ∃ (k : Nat) (T : List Int), k ≤ l ∧ i = .int .i64 k ∧ Hid (T = L.take k) ∧ Own w.heap.size wr x T ∧ Below w.heap.size w wr) (fun _ i _ => l - (intOf i).toNat)
              case atStart => exact ⟨0, [], Nat.zero_le _, rfl, (show _ = _ by simp), hO1, hbw1⟩
              case round =>
                obtain ⟨k, T, hk, rfl, HT, hownr, hbr⟩ := hrel
                clear hO1 hbw1
                have hBr : w.heap.size ≤ wr.heap.size := hbr.size
                have hTl : T.length ≤ 2000000 := by rw [HT.out]; have := HL.out; simp; omega
                by_cases hlt : k < l
                · have hkL : k < L.length := by rw [← HL.out]; exact hlt
                  obtain ⟨bp, op, rfl, hbp, hcp⟩ := hr.at (by omega)
                  have hck := (hbr.cell (p := ⟨bp, op + k, none⟩) hbp).trans (hcp k hkL)
                  obtain ⟨x, hx⟩ : ∃ x, x = L.getD k 0 := ⟨_, rfl⟩
                  rw [← hx] at hck
                  have HX : Hid (x = L.getD k 0) := hx
                  clear hx hcp hr
                  go_wp2_with (at_builtin; refine wpList_append_Own _ rfl (.tmp 61) (.tmp 66) rfl w.heap.size (by simp; omega) _ T rfl (hownr.mono hBr ((Below.refl _ _).alloc (Nat.le_refl _) _)) ⟨wr.heap.size, 0, none⟩ 1 1 [x] rfl rfl (by omega) (one_new _ _ _) (by omega) ?_)
                  intro v2 w2 hown2 hbel2 _
                  have hbw2 : Below w.heap.size w w2 := (hbr.alloc hBr _).trans hbel2
                  go_wp2
                  go_roundw
                  case rel => exact ⟨k + 1, T ++ [x], by omega, by go_num, (show _ = _ by rw [HT.out, HX.out]; exact take_snoc_getD hkL), hown2, hbw2⟩
                  case measure => simp [intOf]; omega
                · have hTL : T = L := by rw [HT.out]; exact List.take_of_length_le (by rw [← HL.out]; omega)
                  clear hr HT
                  have HT0 : Hid (T = L ++ sg false) := (show _ = _ by rw [hTL]; simp [sg])
                  have hO3 := hownr
                  have hbw3 := hbr
                  obtain ⟨T0, hT0⟩ : ∃ T0, T0 = T := ⟨_, rfl⟩
                  rw [← hT0] at hO3 HT0
                  clear hT0 hownr hbr hTL
                  go_wp2
                  go_loopw [14, 16] (fun x i wr => ∃ (p : Int) (T : List Int), LO - 1 ≤ p ∧ p ≤ HI ∧ i = .int .i64 p ∧ Hid (T = L ++ sg false ++ R.take (idx HI p)) ∧ Own w.heap.size wr x T ∧ Below w.heap.size w wr) (fun _ i _ => (intOf i - (LO - 1)).toNat)
                  case atStart =>
                    refine ⟨HI, T0, by omega, by omega, rfl, ?_, hO3, hbw3⟩
                    show _ = _
                    have h := body_start ds exp R
                    rw [HIE.out] at h
                    rw [h, HT0.out, List.append_nil]
                  case round =>
                    obtain ⟨p, T, hp1, hp2, rfl, HT, hownr3, hbr3⟩ := hrel
                    clear hO3 hbw3
                    have hBr3 : w.heap.size ≤ wr.heap.size := hbr3.size
                    have hTl3 : T.length ≤ 9000000 := by
                      have h1 : T.length ≤ L.length + 1 + R.length := by rw [HT.out]; simp [sg]; omega
                      have := HL.out
                      omega
                    by_cases hge : LO ≤ p
                    · by_cases hm1 : p = -1
                      · subst hm1
                        have HST : Hid (T ++ [46] ++ [digAt ds exp (-1)] = L ++ sg false ++ R.take (idx HI (-1 - 1))) := by
                          have h := body_dot HB.out (by rw [LOE.out]; omega)
                          rw [HIE.out] at h
                          show _ = _
                          rw [HT.out, ← h]
                          simp
                        go_wp2_with (at_builtin; refine wpList_append_Own _ rfl (.tmp 80) (.tmp 81) rfl w.heap.size (by simp; omega) _ T rfl (hownr3.mono hBr3 ((Below.refl _ _).alloc (Nat.le_refl _) _)) ⟨wr.heap.size, 0, none⟩ 1 1 [46] rfl rfl (by omega) (one_new _ _ _) (by omega) ?_)
                        intro v4 w4 hown4 hbel4 _
                        have hbw4 : Below w.heap.size w w4 := (hbr3.alloc hBr3 _).trans hbel4
                        have hB4 : w.heap.size ≤ w4.heap.size := hbw4.size
                        go_wp2_with fail
                        refine (HDAt.out _ w4 hbw4 (by omega) (by omega)).mono ?_
                        rintro e w' ⟨rfl, rfl⟩
                        obtain ⟨dg, hdg⟩ : ∃ dg, dg = digAt ds exp (-1) := ⟨_, rfl⟩
                        rw [← hdg] at HST
                        simp only [← hdg]
                        clear hdg
                        go_wp2_with (at_builtin; refine wpList_append_Own _ rfl (.tmp 83) (.tmp 88) rfl w.heap.size (by simp; omega) _ (T ++ [46]) rfl (hown4.mono hB4 ((Below.refl _ _).alloc (Nat.le_refl _) _)) ⟨w4.heap.size, 0, none⟩ 1 1 [dg] rfl rfl (by omega) (one_new _ _ _) (by simp; omega) ?_)
                        intro v5 w5 hown5 hbel5 _
                        have hbw5 : Below w.heap.size w w5 := (hbw4.alloc hB4 _).trans hbel5
                        have hown5' : Own w.heap.size w5 v5 (T ++ [46] ++ [dg]) := by simpa using hown5
                        go_wp2
                        go_roundw
                        case rel => exact ⟨-1 - 1, T ++ [46] ++ [dg], by omega, by omega, rfl, HST, hown5', hbw5⟩
                        case measure => simp [intOf] <;> omega
                      · have hm1' : (p == -1) = false := by simp [hm1]
                        have HST : Hid (T ++ [digAt ds exp p] = L ++ sg false ++ R.take (idx HI (p - 1))) := by
                          have h := body_step HB.out (p := p) (by rw [LOE.out]; omega) (by rw [HIE.out]; omega) hm1
                          rw [HIE.out] at h
                          show _ = _
                          rw [HT.out, ← h]
                          simp
                        go_wp2_with fail
                        refine (HDAt.out _ wr hbr3 (by omega) (by omega)).mono ?_
                        rintro e w' ⟨rfl, rfl⟩
                        obtain ⟨dg, hdg⟩ : ∃ dg, dg = digAt ds exp p := ⟨_, rfl⟩
                        rw [← hdg] at HST
                        simp only [← hdg]
                        clear hdg
                        go_wp2_with (at_builtin; refine wpList_append_Own _ rfl (.tmp 83) (.tmp 88) rfl w.heap.size (by simp; omega) _ T rfl (hownr3.mono hBr3 ((Below.refl _ _).alloc (Nat.le_refl _) _)) ⟨wr.heap.size, 0, none⟩ 1 1 [dg] rfl rfl (by omega) (one_new _ _ _) (by omega) ?_)
                        intro v5 w5 hown5 hbel5 _
                        have hbw5 : Below w.heap.size w w5 := (hbr3.alloc hBr3 _).trans hbel5
                        go_wp2
                        go_roundw
                        case rel => exact ⟨p - 1, T ++ [dg], by omega, by omega, rfl, HST, hown5, hbw5⟩
                        case measure => simp [intOf] <;> omega
                    · have hpe : p = LO - 1 := by omega
                      have hge2 : p < LO := by omega
                      have hfin : T = L ++ scaledText false ds exp K := by
                        have h := body_end HB.out
                        rw [HIE.out, LOE.out] at h
                        rw [HT.out, hpe, h, List.append_assoc, sg_scaled false ds exp K, ← HR.out]
                      clear hpe hge
                      go_wp2
                      go_ret
                      refine ⟨_, rfl, ?_, hbr3⟩
                      rw [← hfin]
                      exact hownr3
            · exfalso
              omega

end Go.Proofs.Qxb6602909a
