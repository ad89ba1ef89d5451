/-
  zzParsePlaces_dB1, by its contract: the text of a value is read back.
-/
import Derived.Test.Qxb6602909aBase
import Derived.Test.Qxb6602909aNum3
namespace Go.Proofs.Qxb6602909a
open Go.RowKit

/-- What zzParsePlaces hands back. -/
def ParseEnds (neg : Bool) (whole frac : Int) (w : World) (e : Ending) (w' : World) : Prop := e = .returned (.tuple #[.bool neg, .int .u64 whole, .int .u64 frac, .bool true]) ∧ w = w'

/-- The places' number at m places. -/
def scaleTo (ps : List Int) (m : Nat) : Int := num ps * 10 ^ (m - ps.length)
theorem scaleTo_at (ps : List Int) : scaleTo ps ps.length = num ps := by simp [scaleTo]
theorem scaleTo_succ (ps : List Int) (m : Nat) (h : ps.length ≤ m) : scaleTo ps (m + 1) = scaleTo ps m * 10 := by
  unfold scaleTo
  rw [show m + 1 - ps.length = (m - ps.length) + 1 by omega, Int.pow_succ, Int.mul_assoc]
theorem scaleTo_bd {ps : List Int} {f : Int} (hp : PlacesD ps f) (m : Nat) (h : m ≤ 16) : 0 ≤ scaleTo ps m ∧ scaleTo ps m ≤ f := by
  have h0 := num_nonneg ps hp.1
  have h1 : (10 : Int) ^ (m - ps.length) ≤ 10 ^ (16 - ps.length) := pow_mono10 (by omega)
  have h2 : (0 : Int) < 10 ^ (m - ps.length) := Int.pow_pos (by omega)
  refine ⟨Int.mul_nonneg h0 (by omega), ?_⟩
  rw [← hp.2.2.2.1]
  exact Int.mul_le_mul_of_nonneg_left h1 h0

theorem whole_room {N y : Int} (h : N * 10 + (y - 48) < 18446744073709551616) : ¬ (18446744073709551615 - (y - 48)) / 10 < N := by omega

set_option maxRecDepth 100000 in
set_option maxHeartbeats 4000000 in
theorem parse_pos_int (b off cap n : Nat) (ds : List Int) (whole : Int) (w : World) (hn : n = ds.length) (hw1 : whole < 18446744073709551616) (hd : WholeD ds whole)
    (hcd : ∀ j, j < ds.length → w.cell? ⟨b, off + j, none⟩ = some (.int .u8 (ds.getD j 0)))
    : Calls Try.prog 20 #[.slice (some ⟨b, off, none⟩) n cap] w (ParseEnds false whole 0 w) := by
  obtain ⟨hdg, hnum, hd1, hd20, hlead⟩ := hd
  have HN : Hid (n = ds.length) := hn
  have hnpos : 1 ≤ n := by omega
  have hnI : (0 : Int) < (n : Int) := by omega
  have hn50 : n ≤ 60 := by omega
  have h0 := hcd 0 (by omega)
  have hx0 := hdg.getD (k := 0) (by omega)
  obtain ⟨x, hx⟩ : ∃ x, x = ds.getD 0 0 := ⟨_, rfl⟩
  rw [← hx] at h0 hx0
  simp only [Nat.add_zero] at h0
  have e45 : (x == 45) = false := by simp; omega
  have HX : Hid (x = ds.getD 0 0) := hx
  clear hx
  have HCD : Hid (∀ j, j < ds.length → w.cell? ⟨b, off + j, none⟩ = some (.int .u8 (ds.getD j 0))) := hcd
  have HNUM : Hid (num ds = whole) := hnum
  have hdle : ds.length ≤ n := by omega
  clear hcd hn hnum
  go_enter Try.func20, Try.ntmps20
  go_wp2
  go_loop [6, 9] (fun i v => ∃ k : Nat, k ≤ ds.length ∧ i = .int .i64 (k : Nat) ∧ v = .int .u64 (num (ds.take k))) (fun i _ => n - (intOf i).toNat)
  case atStart => exact ⟨0, Nat.zero_le _, rfl, rfl⟩
  case round =>
    obtain ⟨k, hk, rfl, rfl⟩ := hrel
    have hn0 := num_nonneg _ (hdg.take k)
    by_cases hlt : k < ds.length
    · have hck := HCD.out k hlt
      have hyk := hdg.getD hlt
      obtain ⟨y, hy⟩ : ∃ y, y = ds.getD k 0 := ⟨_, rfl⟩
      have HS : Hid (num (ds.take (k + 1)) = num (ds.take k) * 10 + (y - 48)) := by rw [hy]; exact num_take_succ ds k hlt
      rw [← hy] at hck hyk
      obtain ⟨N, hN⟩ : ∃ N, N = num (ds.take k) := ⟨_, rfl⟩
      have hNb : N * 10 + (y - 48) < 18446744073709551616 := by
        have h1 := num_take_le ds hdg (k + 1)
        have h2 := HS.out
        rw [← hN] at h2
        have h3 := HNUM.out
        omega
      rw [← hN] at hn0 HS
      simp only [← hN]
      have hroom := whole_room hNb
      have hkn : k < n := by omega
      clear hy hN
      go_wp2
      go_round
      case rel => exact ⟨k + 1, by omega, by go_num, by rw [HS.out]⟩
      case measure => simp [intOf]; omega
    · have hke : k = ds.length := by omega
      subst hke
      have hnw : num (ds.take ds.length) = whole := by rw [List.take_length]; exact HNUM.out
      simp only [hnw]
      clear hnw hlt hn0
      obtain ⟨D, hD⟩ : ∃ D, D = ds.length := ⟨_, rfl⟩
      have HD : Hid (D = ds.length) := hD
      have hlx : 1 < D → x ≠ 48 := by rw [hD, HX.out]; exact hlead
      simp only [← hD]
      rw [← hD] at hd1 hd20 hdle
      clear hlead HCD hk
      have hDn : D = n := by have := HN.out; have := HD.out; omega
      subst hDn
      clear hD
      have hD0 : ((D : Int) == 0) = false := by simp; omega
      by_cases hD1 : 1 < D
      · have hx48 : (x == 48) = false := by simp [hlx hD1]
        clear hlx
        go_wp2
        exact bodyPost_ret (v := .tuple #[.bool false, .int .u64 whole, .int .u64 0, .bool true]) (by simp [results, Try.results20, go_sem]) rfl ⟨rfl, rfl⟩
      · clear hlx
        go_wp2
        exact bodyPost_ret (v := .tuple #[.bool false, .int .u64 whole, .int .u64 0, .bool true]) (by simp [results, Try.results20, go_sem]) rfl ⟨rfl, rfl⟩

set_option maxRecDepth 100000 in
set_option maxHeartbeats 4000000 in
theorem parse_neg_int (b off cap n : Nat) (ds : List Int) (whole : Int) (w : World) (hn : n = 1 + ds.length) (hw1 : whole < 18446744073709551616) (hd : WholeD ds whole)
    (h45 : w.cell? ⟨b, off, none⟩ = some (.int .u8 45))
    (hcd : ∀ j, j < ds.length → w.cell? ⟨b, off + (1 + j), none⟩ = some (.int .u8 (ds.getD j 0)))
    : Calls Try.prog 20 #[.slice (some ⟨b, off, none⟩) n cap] w (ParseEnds true whole 0 w) := by
  obtain ⟨hdg, hnum, hd1, hd20, hlead⟩ := hd
  have HN : Hid (n = 1 + ds.length) := hn
  have hnpos : 1 ≤ n := by omega
  have hnI : (0 : Int) < (n : Int) := by omega
  have hn50 : n ≤ 60 := by omega
  have HCD : Hid (∀ j, j < ds.length → w.cell? ⟨b, off + (1 + j), none⟩ = some (.int .u8 (ds.getD j 0))) := hcd
  have HNUM : Hid (num ds = whole) := hnum
  have hdle : 1 + ds.length ≤ n := by omega
  clear hcd hn hnum
  go_enter Try.func20, Try.ntmps20
  go_wp2
  go_loop [6, 9] (fun i v => ∃ k : Nat, k ≤ ds.length ∧ i = .int .i64 (1 + k : Nat) ∧ v = .int .u64 (num (ds.take k))) (fun i _ => n - (intOf i).toNat)
  case atStart => exact ⟨0, Nat.zero_le _, rfl, rfl⟩
  case round =>
    obtain ⟨k, hk, rfl, rfl⟩ := hrel
    have hn0 := num_nonneg _ (hdg.take k)
    by_cases hlt : k < ds.length
    · have hck := HCD.out k hlt
      have hyk := hdg.getD hlt
      obtain ⟨y, hy⟩ : ∃ y, y = ds.getD k 0 := ⟨_, rfl⟩
      have HS : Hid (num (ds.take (k + 1)) = num (ds.take k) * 10 + (y - 48)) := by rw [hy]; exact num_take_succ ds k hlt
      rw [← hy] at hck hyk
      obtain ⟨N, hN⟩ : ∃ N, N = num (ds.take k) := ⟨_, rfl⟩
      have hNb : N * 10 + (y - 48) < 18446744073709551616 := by
        have h1 := num_take_le ds hdg (k + 1)
        have h2 := HS.out
        rw [← hN] at h2
        have h3 := HNUM.out
        omega
      rw [← hN] at hn0 HS
      simp only [← hN]
      have hroom := whole_room hNb
      have hkn : 1 + k < n := by omega
      clear hy hN
      go_wp2
      go_round
      case rel => exact ⟨k + 1, by omega, by go_num, by rw [HS.out]⟩
      case measure => simp [intOf]; omega
    · have hke : k = ds.length := by omega
      subst hke
      have hnw : num (ds.take ds.length) = whole := by rw [List.take_length]; exact HNUM.out
      simp only [hnw]
      clear hnw hlt hn0
      obtain ⟨D, hD⟩ : ∃ D, D = ds.length := ⟨_, rfl⟩
      have HD : Hid (D = ds.length) := hD
      have hl0 := HCD.out 0 (by omega)
      obtain ⟨x, hx⟩ : ∃ x, x = ds.getD 0 0 := ⟨_, rfl⟩
      rw [← hx] at hl0
      simp only [Nat.add_zero] at hl0
      have hlx : 1 < D → x ≠ 48 := by rw [hD, hx]; exact hlead
      clear hx
      simp only [← hD]
      rw [← hD] at hd1 hd20 hdle
      clear hlead HCD hk
      have hDn : n = 1 + D := by have := HN.out; have := HD.out; omega
      subst hDn
      clear hD
      have hD0 : ((D : Int) == 0) = false := by simp; omega
      by_cases hD1 : 1 < D
      · have hx48 : (x == 48) = false := by simp [hlx hD1]
        clear hlx
        go_wp2
        exact bodyPost_ret (v := .tuple #[.bool true, .int .u64 whole, .int .u64 0, .bool true]) (by simp [results, Try.results20, go_sem]) rfl ⟨rfl, rfl⟩
      · clear hlx
        go_wp2
        exact bodyPost_ret (v := .tuple #[.bool true, .int .u64 whole, .int .u64 0, .bool true]) (by simp [results, Try.results20, go_sem]) rfl ⟨rfl, rfl⟩

set_option maxRecDepth 100000 in
set_option maxHeartbeats 4000000 in
theorem parse_pos_frac (b off cap n : Nat) (ds : List Int) (ps : List Int) (whole frac : Int) (w : World) (hn : n = ds.length + 1 + ps.length) (hw1 : whole < 18446744073709551616) (hf1 : frac < 10000000000000000) (hd : WholeD ds whole) (hp : PlacesD ps frac)
    (hcd : ∀ j, j < ds.length → w.cell? ⟨b, off + j, none⟩ = some (.int .u8 (ds.getD j 0)))
    (h46 : w.cell? ⟨b, off + (ds.length), none⟩ = some (.int .u8 46))
    (hcp : ∀ j, j < ps.length → w.cell? ⟨b, off + (ds.length + 1 + j), none⟩ = some (.int .u8 (ps.getD j 0)))
    : Calls Try.prog 20 #[.slice (some ⟨b, off, none⟩) n cap] w (ParseEnds false whole frac w) := by
  obtain ⟨hdg, hnum, hd1, hd20, hlead⟩ := hd
  have HN : Hid (n = ds.length + 1 + ps.length) := hn
  have HP : Hid (PlacesD ps frac) := hp
  obtain ⟨hpg, hp1, hp16, hpn, hplast⟩ := hp
  have hnpos : 1 ≤ n := by omega
  have hnI : (0 : Int) < (n : Int) := by omega
  have hn50 : n ≤ 60 := by omega
  have h0 := hcd 0 (by omega)
  have hx0 := hdg.getD (k := 0) (by omega)
  obtain ⟨x, hx⟩ : ∃ x, x = ds.getD 0 0 := ⟨_, rfl⟩
  rw [← hx] at h0 hx0
  simp only [Nat.add_zero] at h0
  have e45 : (x == 45) = false := by simp; omega
  have HX : Hid (x = ds.getD 0 0) := hx
  clear hx
  have HCD : Hid (∀ j, j < ds.length → w.cell? ⟨b, off + j, none⟩ = some (.int .u8 (ds.getD j 0))) := hcd
  have H46 : Hid (w.cell? ⟨b, off + (ds.length), none⟩ = some (.int .u8 46)) := h46
  have HCP : Hid (∀ j, j < ps.length → w.cell? ⟨b, off + (ds.length + 1 + j), none⟩ = some (.int .u8 (ps.getD j 0))) := hcp
  have HPN : Hid (num ps * 10 ^ (16 - ps.length) = frac) := hpn
  clear h46 hcp hpn
  have HNUM : Hid (num ds = whole) := hnum
  have hdle : ds.length ≤ n := by omega
  clear hcd hn hnum
  go_enter Try.func20, Try.ntmps20
  go_wp2
  go_loop [6, 9] (fun i v => ∃ k : Nat, k ≤ ds.length ∧ i = .int .i64 (k : Nat) ∧ v = .int .u64 (num (ds.take k))) (fun i _ => n - (intOf i).toNat)
  case atStart => exact ⟨0, Nat.zero_le _, rfl, rfl⟩
  case round =>
    obtain ⟨k, hk, rfl, rfl⟩ := hrel
    have hn0 := num_nonneg _ (hdg.take k)
    by_cases hlt : k < ds.length
    · have hck := HCD.out k hlt
      have hyk := hdg.getD hlt
      obtain ⟨y, hy⟩ : ∃ y, y = ds.getD k 0 := ⟨_, rfl⟩
      have HS : Hid (num (ds.take (k + 1)) = num (ds.take k) * 10 + (y - 48)) := by rw [hy]; exact num_take_succ ds k hlt
      rw [← hy] at hck hyk
      obtain ⟨N, hN⟩ : ∃ N, N = num (ds.take k) := ⟨_, rfl⟩
      have hNb : N * 10 + (y - 48) < 18446744073709551616 := by
        have h1 := num_take_le ds hdg (k + 1)
        have h2 := HS.out
        rw [← hN] at h2
        have h3 := HNUM.out
        omega
      rw [← hN] at hn0 HS
      simp only [← hN]
      have hroom := whole_room hNb
      have hkn : k < n := by omega
      clear hy hN
      go_wp2
      go_round
      case rel => exact ⟨k + 1, by omega, by go_num, by rw [HS.out]⟩
      case measure => simp [intOf]; omega
    · have hke : k = ds.length := by omega
      subst hke
      have hnw : num (ds.take ds.length) = whole := by rw [List.take_length]; exact HNUM.out
      simp only [hnw]
      clear hnw hlt hn0
      obtain ⟨D, hD⟩ : ∃ D, D = ds.length := ⟨_, rfl⟩
      have HD : Hid (D = ds.length) := hD
      have hlx : 1 < D → x ≠ 48 := by rw [hD, HX.out]; exact hlead
      simp only [← hD]
      rw [← hD] at hd1 hd20 hdle
      clear hlead HCD hk
      have h46 := H46.out
      rw [← HD.out] at h46
      have hDn : D < n := by have := HN.out; have := HD.out; omega
      have hneq : (((D : Nat) : Int) == (n : Int)) = false := by simp; omega
      clear hD
      have hD0 : ((D : Int) == 0) = false := by simp; omega
      by_cases hD1 : 1 < D
      · have hx48 : (x == 48) = false := by simp [hlx hD1]
        clear hlx
        go_wp2
        go_loop [6, 13] (fun i v => ∃ k : Nat, k ≤ ps.length ∧ i = .int .i64 (D + 1 + k : Nat) ∧ v = .int .u64 (num (ps.take k))) (fun i _ => n - (intOf i).toNat)
        case atStart => exact ⟨0, Nat.zero_le _, by go_num, rfl⟩
        case round =>
          obtain ⟨k, hk, rfl, rfl⟩ := hrel
          have hn0 := num_nonneg _ (hpg.take k)
          have hnD : n = D + 1 + ps.length := by have := HN.out; have := HD.out; omega
          by_cases hlt : k < ps.length
          · have hck := HCP.out k hlt
            rw [← HD.out] at hck
            have hyk := hpg.getD hlt
            obtain ⟨y, hy⟩ : ∃ y, y = ps.getD k 0 := ⟨_, rfl⟩
            have HS : Hid (num (ps.take (k + 1)) = num (ps.take k) * 10 + (y - 48)) := by rw [hy]; exact num_take_succ ps k hlt
            rw [← hy] at hck hyk
            obtain ⟨N, hN⟩ : ∃ N, N = num (ps.take k) := ⟨_, rfl⟩
            have hNb : N * 10 + (y - 48) < 10000000000000000 := by
              have h1 := num_take_le ps hpg (k + 1)
              have h2 := HS.out
              rw [← hN] at h2
              have h3 := (scaleTo_bd HP.out ps.length hp16).2
              rw [scaleTo_at] at h3
              omega
            rw [← hN] at hn0 HS
            simp only [← hN]
            have hkn : D + 1 + k < n := by omega
            clear hy hN hnD
            go_wp2
            go_round
            case rel => exact ⟨k + 1, by omega, by go_num, by rw [HS.out]⟩
            case measure => simp [intOf]; omega
          · have hke : k = ps.length := by omega
            subst hke
            simp only [List.take_length]
            obtain ⟨M, hM⟩ : ∃ M, M = ps.length := ⟨_, rfl⟩
            have HM : Hid (M = ps.length) := hM
            have hcl := HCP.out (M - 1) (by omega)
            rw [← HD.out] at hcl
            obtain ⟨z, hz⟩ : ∃ z, z = ps.getD (M - 1) 0 := ⟨_, rfl⟩
            rw [← hz] at hcl
            have hz48 : (z == 48) = false := by simp; rw [hz, hM]; exact hplast
            have hM1 : 1 ≤ M := by omega
            have hM16 : M ≤ 16 := by omega
            have hnM : n = D + 1 + M := by omega
            simp only [← hM]
            clear hz hlt hk hnD hplast hn0
            have hcl2 : w.cell? ⟨b, off + (D + M), none⟩ = some (.int .u8 z) := by rw [← hcl]; congr 2; omega
            clear hcl hM
            have hM0 : ((M : Int) == 0) = false := by simp; omega
            subst hnM
            have hnne : ((((D + 1 + M : Nat) : Int)) == (((D + 1 + M : Nat) : Int))) = true := by simp
            go_wp2
            clear hcl2 hz48
            go_loop [13, 14] (fun v i => ∃ m : Nat, M ≤ m ∧ m ≤ 16 ∧ i = .int .i64 m ∧ v = .int .u64 (scaleTo ps m)) (fun _ i => 16 - (intOf i).toNat)
            case atStart => exact ⟨M, Nat.le_refl _, hM16, by go_num, by rw [HM.out, scaleTo_at]⟩
            case round =>
              obtain ⟨m, hm1, hm2, rfl, rfl⟩ := hrel
              by_cases hlt : m < 16
              · have hsb := scaleTo_bd HP.out (m + 1) (by omega)
                have hsb0 := scaleTo_bd HP.out m (by omega)
                have hsc := scaleTo_succ ps m (by rw [← HM.out]; exact hm1)
                obtain ⟨S, hS⟩ : ∃ S, S = scaleTo ps m := ⟨_, rfl⟩
                rw [← hS] at hsc hsb0
                rw [hsc] at hsb
                have HSC : Hid (scaleTo ps (m + 1) = S * 10) := hsc
                simp only [← hS]
                clear hsc hS
                go_wp2
                go_round
                case rel => exact ⟨m + 1, by omega, by omega, by go_num, by rw [HSC.out]⟩
                case measure => simp [intOf]; omega
              · have hm16 : m = 16 := by omega
                subst hm16
                have hfin : scaleTo ps 16 = frac := HPN.out
                simp only [hfin]
                clear hfin
                go_wp2
                exact bodyPost_ret (v := .tuple #[.bool false, .int .u64 whole, .int .u64 frac, .bool true]) (by simp [results, Try.results20, go_sem]) rfl ⟨rfl, rfl⟩
      · clear hlx
        go_wp2
        go_loop [6, 13] (fun i v => ∃ k : Nat, k ≤ ps.length ∧ i = .int .i64 (D + 1 + k : Nat) ∧ v = .int .u64 (num (ps.take k))) (fun i _ => n - (intOf i).toNat)
        case atStart => exact ⟨0, Nat.zero_le _, by go_num, rfl⟩
        case round =>
          obtain ⟨k, hk, rfl, rfl⟩ := hrel
          have hn0 := num_nonneg _ (hpg.take k)
          have hnD : n = D + 1 + ps.length := by have := HN.out; have := HD.out; omega
          by_cases hlt : k < ps.length
          · have hck := HCP.out k hlt
            rw [← HD.out] at hck
            have hyk := hpg.getD hlt
            obtain ⟨y, hy⟩ : ∃ y, y = ps.getD k 0 := ⟨_, rfl⟩
            have HS : Hid (num (ps.take (k + 1)) = num (ps.take k) * 10 + (y - 48)) := by rw [hy]; exact num_take_succ ps k hlt
            rw [← hy] at hck hyk
            obtain ⟨N, hN⟩ : ∃ N, N = num (ps.take k) := ⟨_, rfl⟩
            have hNb : N * 10 + (y - 48) < 10000000000000000 := by
              have h1 := num_take_le ps hpg (k + 1)
              have h2 := HS.out
              rw [← hN] at h2
              have h3 := (scaleTo_bd HP.out ps.length hp16).2
              rw [scaleTo_at] at h3
              omega
            rw [← hN] at hn0 HS
            simp only [← hN]
            have hkn : D + 1 + k < n := by omega
            clear hy hN hnD
            go_wp2
            go_round
            case rel => exact ⟨k + 1, by omega, by go_num, by rw [HS.out]⟩
            case measure => simp [intOf]; omega
          · have hke : k = ps.length := by omega
            subst hke
            simp only [List.take_length]
            obtain ⟨M, hM⟩ : ∃ M, M = ps.length := ⟨_, rfl⟩
            have HM : Hid (M = ps.length) := hM
            have hcl := HCP.out (M - 1) (by omega)
            rw [← HD.out] at hcl
            obtain ⟨z, hz⟩ : ∃ z, z = ps.getD (M - 1) 0 := ⟨_, rfl⟩
            rw [← hz] at hcl
            have hz48 : (z == 48) = false := by simp; rw [hz, hM]; exact hplast
            have hM1 : 1 ≤ M := by omega
            have hM16 : M ≤ 16 := by omega
            have hnM : n = D + 1 + M := by omega
            simp only [← hM]
            clear hz hlt hk hnD hplast hn0
            have hcl2 : w.cell? ⟨b, off + (D + M), none⟩ = some (.int .u8 z) := by rw [← hcl]; congr 2; omega
            clear hcl hM
            have hM0 : ((M : Int) == 0) = false := by simp; omega
            subst hnM
            have hnne : ((((D + 1 + M : Nat) : Int)) == (((D + 1 + M : Nat) : Int))) = true := by simp
            go_wp2
            clear hcl2 hz48
            go_loop [13, 14] (fun v i => ∃ m : Nat, M ≤ m ∧ m ≤ 16 ∧ i = .int .i64 m ∧ v = .int .u64 (scaleTo ps m)) (fun _ i => 16 - (intOf i).toNat)
            case atStart => exact ⟨M, Nat.le_refl _, hM16, by go_num, by rw [HM.out, scaleTo_at]⟩
            case round =>
              obtain ⟨m, hm1, hm2, rfl, rfl⟩ := hrel
              by_cases hlt : m < 16
              · have hsb := scaleTo_bd HP.out (m + 1) (by omega)
                have hsb0 := scaleTo_bd HP.out m (by omega)
                have hsc := scaleTo_succ ps m (by rw [← HM.out]; exact hm1)
                obtain ⟨S, hS⟩ : ∃ S, S = scaleTo ps m := ⟨_, rfl⟩
                rw [← hS] at hsc hsb0
                rw [hsc] at hsb
                have HSC : Hid (scaleTo ps (m + 1) = S * 10) := hsc
                simp only [← hS]
                clear hsc hS
                go_wp2
                go_round
                case rel => exact ⟨m + 1, by omega, by omega, by go_num, by rw [HSC.out]⟩
                case measure => simp [intOf]; omega
              · have hm16 : m = 16 := by omega
                subst hm16
                have hfin : scaleTo ps 16 = frac := HPN.out
                simp only [hfin]
                clear hfin
                go_wp2
                exact bodyPost_ret (v := .tuple #[.bool false, .int .u64 whole, .int .u64 frac, .bool true]) (by simp [results, Try.results20, go_sem]) rfl ⟨rfl, rfl⟩

set_option maxRecDepth 100000 in
set_option maxHeartbeats 4000000 in
theorem parse_neg_frac (b off cap n : Nat) (ds : List Int) (ps : List Int) (whole frac : Int) (w : World) (hn : n = 1 + ds.length + 1 + ps.length) (hw1 : whole < 18446744073709551616) (hf1 : frac < 10000000000000000) (hd : WholeD ds whole) (hp : PlacesD ps frac)
    (h45 : w.cell? ⟨b, off, none⟩ = some (.int .u8 45))
    (hcd : ∀ j, j < ds.length → w.cell? ⟨b, off + (1 + j), none⟩ = some (.int .u8 (ds.getD j 0)))
    (h46 : w.cell? ⟨b, off + (1 + ds.length), none⟩ = some (.int .u8 46))
    (hcp : ∀ j, j < ps.length → w.cell? ⟨b, off + (1 + ds.length + 1 + j), none⟩ = some (.int .u8 (ps.getD j 0)))
    : Calls Try.prog 20 #[.slice (some ⟨b, off, none⟩) n cap] w (ParseEnds true whole frac w) := by
  obtain ⟨hdg, hnum, hd1, hd20, hlead⟩ := hd
  have HN : Hid (n = 1 + ds.length + 1 + ps.length) := hn
  have HP : Hid (PlacesD ps frac) := hp
  obtain ⟨hpg, hp1, hp16, hpn, hplast⟩ := hp
  have hnpos : 1 ≤ n := by omega
  have hnI : (0 : Int) < (n : Int) := by omega
  have hn50 : n ≤ 60 := by omega
  have HCD : Hid (∀ j, j < ds.length → w.cell? ⟨b, off + (1 + j), none⟩ = some (.int .u8 (ds.getD j 0))) := hcd
  have H46 : Hid (w.cell? ⟨b, off + (1 + ds.length), none⟩ = some (.int .u8 46)) := h46
  have HCP : Hid (∀ j, j < ps.length → w.cell? ⟨b, off + (1 + ds.length + 1 + j), none⟩ = some (.int .u8 (ps.getD j 0))) := hcp
  have HPN : Hid (num ps * 10 ^ (16 - ps.length) = frac) := hpn
  clear h46 hcp hpn
  have HNUM : Hid (num ds = whole) := hnum
  have hdle : 1 + ds.length ≤ n := by omega
  clear hcd hn hnum
  go_enter Try.func20, Try.ntmps20
  go_wp2
  go_loop [6, 9] (fun i v => ∃ k : Nat, k ≤ ds.length ∧ i = .int .i64 (1 + k : Nat) ∧ v = .int .u64 (num (ds.take k))) (fun i _ => n - (intOf i).toNat)
  case atStart => exact ⟨0, Nat.zero_le _, rfl, rfl⟩
  case round =>
    obtain ⟨k, hk, rfl, rfl⟩ := hrel
    have hn0 := num_nonneg _ (hdg.take k)
    by_cases hlt : k < ds.length
    · have hck := HCD.out k hlt
      have hyk := hdg.getD hlt
      obtain ⟨y, hy⟩ : ∃ y, y = ds.getD k 0 := ⟨_, rfl⟩
      have HS : Hid (num (ds.take (k + 1)) = num (ds.take k) * 10 + (y - 48)) := by rw [hy]; exact num_take_succ ds k hlt
      rw [← hy] at hck hyk
      obtain ⟨N, hN⟩ : ∃ N, N = num (ds.take k) := ⟨_, rfl⟩
      have hNb : N * 10 + (y - 48) < 18446744073709551616 := by
        have h1 := num_take_le ds hdg (k + 1)
        have h2 := HS.out
        rw [← hN] at h2
        have h3 := HNUM.out
        omega
      rw [← hN] at hn0 HS
      simp only [← hN]
      have hroom := whole_room hNb
      have hkn : 1 + k < n := by omega
      clear hy hN
      go_wp2
      go_round
      case rel => exact ⟨k + 1, by omega, by go_num, by rw [HS.out]⟩
      case measure => simp [intOf]; omega
    · have hke : k = ds.length := by omega
      subst hke
      have hnw : num (ds.take ds.length) = whole := by rw [List.take_length]; exact HNUM.out
      simp only [hnw]
      clear hnw hlt hn0
      obtain ⟨D, hD⟩ : ∃ D, D = ds.length := ⟨_, rfl⟩
      have HD : Hid (D = ds.length) := hD
      have hl0 := HCD.out 0 (by omega)
      obtain ⟨x, hx⟩ : ∃ x, x = ds.getD 0 0 := ⟨_, rfl⟩
      rw [← hx] at hl0
      simp only [Nat.add_zero] at hl0
      have hlx : 1 < D → x ≠ 48 := by rw [hD, hx]; exact hlead
      clear hx
      simp only [← hD]
      rw [← hD] at hd1 hd20 hdle
      clear hlead HCD hk
      have h46 := H46.out
      rw [← HD.out] at h46
      have hDn : 1 + D < n := by have := HN.out; have := HD.out; omega
      have hneq : (((1 + D : Nat) : Int) == (n : Int)) = false := by simp; omega
      clear hD
      have hD0 : ((D : Int) == 0) = false := by simp; omega
      by_cases hD1 : 1 < D
      · have hx48 : (x == 48) = false := by simp [hlx hD1]
        clear hlx
        go_wp2
        go_loop [6, 13] (fun i v => ∃ k : Nat, k ≤ ps.length ∧ i = .int .i64 (1 + D + 1 + k : Nat) ∧ v = .int .u64 (num (ps.take k))) (fun i _ => n - (intOf i).toNat)
        case atStart => exact ⟨0, Nat.zero_le _, by go_num, rfl⟩
        case round =>
          obtain ⟨k, hk, rfl, rfl⟩ := hrel
          have hn0 := num_nonneg _ (hpg.take k)
          have hnD : n = 1 + D + 1 + ps.length := by have := HN.out; have := HD.out; omega
          by_cases hlt : k < ps.length
          · have hck := HCP.out k hlt
            rw [← HD.out] at hck
            have hyk := hpg.getD hlt
            obtain ⟨y, hy⟩ : ∃ y, y = ps.getD k 0 := ⟨_, rfl⟩
            have HS : Hid (num (ps.take (k + 1)) = num (ps.take k) * 10 + (y - 48)) := by rw [hy]; exact num_take_succ ps k hlt
            rw [← hy] at hck hyk
            obtain ⟨N, hN⟩ : ∃ N, N = num (ps.take k) := ⟨_, rfl⟩
            have hNb : N * 10 + (y - 48) < 10000000000000000 := by
              have h1 := num_take_le ps hpg (k + 1)
              have h2 := HS.out
              rw [← hN] at h2
              have h3 := (scaleTo_bd HP.out ps.length hp16).2
              rw [scaleTo_at] at h3
              omega
            rw [← hN] at hn0 HS
            simp only [← hN]
            have hkn : 1 + D + 1 + k < n := by omega
            clear hy hN hnD
            go_wp2
            go_round
            case rel => exact ⟨k + 1, by omega, by go_num, by rw [HS.out]⟩
            case measure => simp [intOf]; omega
          · have hke : k = ps.length := by omega
            subst hke
            simp only [List.take_length]
            obtain ⟨M, hM⟩ : ∃ M, M = ps.length := ⟨_, rfl⟩
            have HM : Hid (M = ps.length) := hM
            have hcl := HCP.out (M - 1) (by omega)
            rw [← HD.out] at hcl
            obtain ⟨z, hz⟩ : ∃ z, z = ps.getD (M - 1) 0 := ⟨_, rfl⟩
            rw [← hz] at hcl
            have hz48 : (z == 48) = false := by simp; rw [hz, hM]; exact hplast
            have hM1 : 1 ≤ M := by omega
            have hM16 : M ≤ 16 := by omega
            have hnM : n = 1 + D + 1 + M := by omega
            simp only [← hM]
            clear hz hlt hk hnD hplast hn0
            have hcl2 : w.cell? ⟨b, off + (1 + D + M), none⟩ = some (.int .u8 z) := by rw [← hcl]; congr 2; omega
            clear hcl hM
            have hM0 : ((M : Int) == 0) = false := by simp; omega
            subst hnM
            have hnne : ((((1 + D + 1 + M : Nat) : Int)) == (((1 + D + 1 + M : Nat) : Int))) = true := by simp
            go_wp2
            clear hcl2 hz48
            go_loop [13, 14] (fun v i => ∃ m : Nat, M ≤ m ∧ m ≤ 16 ∧ i = .int .i64 m ∧ v = .int .u64 (scaleTo ps m)) (fun _ i => 16 - (intOf i).toNat)
            case atStart => exact ⟨M, Nat.le_refl _, hM16, by go_num, by rw [HM.out, scaleTo_at]⟩
            case round =>
              obtain ⟨m, hm1, hm2, rfl, rfl⟩ := hrel
              by_cases hlt : m < 16
              · have hsb := scaleTo_bd HP.out (m + 1) (by omega)
                have hsb0 := scaleTo_bd HP.out m (by omega)
                have hsc := scaleTo_succ ps m (by rw [← HM.out]; exact hm1)
                obtain ⟨S, hS⟩ : ∃ S, S = scaleTo ps m := ⟨_, rfl⟩
                rw [← hS] at hsc hsb0
                rw [hsc] at hsb
                have HSC : Hid (scaleTo ps (m + 1) = S * 10) := hsc
                simp only [← hS]
                clear hsc hS
                go_wp2
                go_round
                case rel => exact ⟨m + 1, by omega, by omega, by go_num, by rw [HSC.out]⟩
                case measure => simp [intOf]; omega
              · have hm16 : m = 16 := by omega
                subst hm16
                have hfin : scaleTo ps 16 = frac := HPN.out
                simp only [hfin]
                clear hfin
                go_wp2
                exact bodyPost_ret (v := .tuple #[.bool true, .int .u64 whole, .int .u64 frac, .bool true]) (by simp [results, Try.results20, go_sem]) rfl ⟨rfl, rfl⟩
      · clear hlx
        go_wp2
        go_loop [6, 13] (fun i v => ∃ k : Nat, k ≤ ps.length ∧ i = .int .i64 (1 + D + 1 + k : Nat) ∧ v = .int .u64 (num (ps.take k))) (fun i _ => n - (intOf i).toNat)
        case atStart => exact ⟨0, Nat.zero_le _, by go_num, rfl⟩
        case round =>
          obtain ⟨k, hk, rfl, rfl⟩ := hrel
          have hn0 := num_nonneg _ (hpg.take k)
          have hnD : n = 1 + D + 1 + ps.length := by have := HN.out; have := HD.out; omega
          by_cases hlt : k < ps.length
          · have hck := HCP.out k hlt
            rw [← HD.out] at hck
            have hyk := hpg.getD hlt
            obtain ⟨y, hy⟩ : ∃ y, y = ps.getD k 0 := ⟨_, rfl⟩
            have HS : Hid (num (ps.take (k + 1)) = num (ps.take k) * 10 + (y - 48)) := by rw [hy]; exact num_take_succ ps k hlt
            rw [← hy] at hck hyk
            obtain ⟨N, hN⟩ : ∃ N, N = num (ps.take k) := ⟨_, rfl⟩
            have hNb : N * 10 + (y - 48) < 10000000000000000 := by
              have h1 := num_take_le ps hpg (k + 1)
              have h2 := HS.out
              rw [← hN] at h2
              have h3 := (scaleTo_bd HP.out ps.length hp16).2
              rw [scaleTo_at] at h3
              omega
            rw [← hN] at hn0 HS
            simp only [← hN]
            have hkn : 1 + D + 1 + k < n := by omega
            clear hy hN hnD
            go_wp2
            go_round
            case rel => exact ⟨k + 1, by omega, by go_num, by rw [HS.out]⟩
            case measure => simp [intOf]; omega
          · have hke : k = ps.length := by omega
            subst hke
            simp only [List.take_length]
            obtain ⟨M, hM⟩ : ∃ M, M = ps.length := ⟨_, rfl⟩
            have HM : Hid (M = ps.length) := hM
            have hcl := HCP.out (M - 1) (by omega)
            rw [← HD.out] at hcl
            obtain ⟨z, hz⟩ : ∃ z, z = ps.getD (M - 1) 0 := ⟨_, rfl⟩
            rw [← hz] at hcl
            have hz48 : (z == 48) = false := by simp; rw [hz, hM]; exact hplast
            have hM1 : 1 ≤ M := by omega
            have hM16 : M ≤ 16 := by omega
            have hnM : n = 1 + D + 1 + M := by omega
            simp only [← hM]
            clear hz hlt hk hnD hplast hn0
            have hcl2 : w.cell? ⟨b, off + (1 + D + M), none⟩ = some (.int .u8 z) := by rw [← hcl]; congr 2; omega
            clear hcl hM
            have hM0 : ((M : Int) == 0) = false := by simp; omega
            subst hnM
            have hnne : ((((1 + D + 1 + M : Nat) : Int)) == (((1 + D + 1 + M : Nat) : Int))) = true := by simp
            go_wp2
            clear hcl2 hz48
            go_loop [13, 14] (fun v i => ∃ m : Nat, M ≤ m ∧ m ≤ 16 ∧ i = .int .i64 m ∧ v = .int .u64 (scaleTo ps m)) (fun _ i => 16 - (intOf i).toNat)
            case atStart => exact ⟨M, Nat.le_refl _, hM16, by go_num, by rw [HM.out, scaleTo_at]⟩
            case round =>
              obtain ⟨m, hm1, hm2, rfl, rfl⟩ := hrel
              by_cases hlt : m < 16
              · have hsb := scaleTo_bd HP.out (m + 1) (by omega)
                have hsb0 := scaleTo_bd HP.out m (by omega)
                have hsc := scaleTo_succ ps m (by rw [← HM.out]; exact hm1)
                obtain ⟨S, hS⟩ : ∃ S, S = scaleTo ps m := ⟨_, rfl⟩
                rw [← hS] at hsc hsb0
                rw [hsc] at hsb
                have HSC : Hid (scaleTo ps (m + 1) = S * 10) := hsc
                simp only [← hS]
                clear hsc hS
                go_wp2
                go_round
                case rel => exact ⟨m + 1, by omega, by omega, by go_num, by rw [HSC.out]⟩
                case measure => simp [intOf]; omega
              · have hm16 : m = 16 := by omega
                subst hm16
                have hfin : scaleTo ps 16 = frac := HPN.out
                simp only [hfin]
                clear hfin
                go_wp2
                exact bodyPost_ret (v := .tuple #[.bool true, .int .u64 whole, .int .u64 frac, .bool true]) (by simp [results, Try.results20, go_sem]) rfl ⟨rfl, rfl⟩

end Go.Proofs.Qxb6602909a
