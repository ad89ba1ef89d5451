/-
  FnReplicaNamesIndexFormula, walked.
-/
import Derived.Test.Qxb6002792aBytes
namespace Go.Proofs.Qxb6002792a
open Go.RowKit

set_option maxRecDepth 100000 in
set_option maxHeartbeats 4000000 in
theorem index_walk (g r : ByteArray) (aA aS : Option Addr) (cA cS : Nat) (L S : List ByteArray) (w : World) (hrA : SRow w aA L) (hnA : aA = none → L = []) (hrS : SRow w aS S) (hnS : aS = none → S = []) (hg : g.size ≤ 9223372036854775807) (hr : r.size ≤ 9223372036854775807) (hl : L.length ≤ 9223372036854775807) (hs : S.length ≤ 9223372036854775807)
    (hxA : ∀ x ∈ L, x.size ≤ 9223372036854775807) (hxS : ∀ x ∈ S, x.size ≤ 9223372036854775807) :
    Calls Try.prog 5 #[.string g, .string r, .slice aA L.length cA, .slice aS S.length cS] w fun e w' => e = .returned (.bool true) ∧ Below w.heap.size w w' := by
  have HBY := bytes_any g r aA aS cA cS L S w hrA hrS hg hr hl hs hxA hxS
  have HA : Hid (SRow w aA L ∧ (aA = none → L = [])) := ⟨hrA, hnA⟩
  have HS : Hid (SRow w aS S ∧ (aS = none → S = [])) := ⟨hrS, hnS⟩
  obtain ⟨l, hl'⟩ : ∃ l, l = L.length := ⟨_, rfl⟩
  obtain ⟨s, hs'⟩ : ∃ s, s = S.length := ⟨_, rfl⟩
  have HL : Hid (l = L.length) := hl'
  have HSl : Hid (s = S.length) := hs'
  rw [← hl'] at hl ⊢
  rw [← hs'] at hs ⊢
  rw [← hl', ← hs'] at HBY
  clear hrA hrS hxA hxS hl' hs' hnA hnS
  go_enter Try.func5, Try.ntmps5
  go_wp2_with fail
  refine HBY.mono ?_
  rintro e w' ⟨rr, rfl, rfl, hrr⟩
  cases rr with
  | false =>
    go_wp2
    go_ret
    exact ⟨rfl, Below.refl _ _⟩
  | true =>
    obtain ⟨hXA, hXS⟩ := hrr rfl
    have HXA : Hid (∀ x ∈ L, x.size ≤ 1048576) := hXA
    have HXS : Hid (∀ x ∈ S, x.size ≤ 1048576) := hXS
    clear HBY hXA hXS hrr
    go_wp2
    all_goals (try (go_ret; exact ⟨rfl, Below.refl _ _⟩))
    have hgB : g.size ≤ 1048576 := by omega
    have hrB : r.size ≤ 1048576 := by omega
    have hlB : l ≤ 4096 := by omega
    have hsB : s ≤ 4096 := by omega
    go_loop [9, 10, 11] (fun z q i => ∃ (k : Nat) (N M : Int), k ≤ l ∧ i = .int .i64 k ∧ z = .int .i64 N ∧ q = .int .i64 M ∧ 0 ≤ M ∧ M ≤ N ∧ N ≤ 1048576) (fun _ _ i => l - (intOf i).toNat)
    case atStart => exact ⟨0, _, _, Nat.zero_le _, rfl, rfl, rfl, by omega, by omega, by omega⟩
    case round =>
      obtain ⟨k, N, M, hk, rfl, rfl, rfl, hM0, hMN, hN1⟩ := hrel
      by_cases hlt : k < l
      · obtain ⟨b, off, hb, _, hc⟩ := HA.out.1.at (by rw [← HL.out]; omega)
        have hkL : k < L.length := by rw [← HL.out]; exact hlt
        have hck := hc k hkL
        obtain ⟨x, hx⟩ : ∃ x, x = L.getD k eS := ⟨_, rfl⟩
        rw [← hx] at hck
        have hxs : x.size ≤ 1048576 := HXA.out x (by rw [hx]; simp [List.getD_eq_getElem?_getD, hkL])
        subst hb
        clear hx hc
        go_wp2
        all_goals (try (go_ret; exact ⟨rfl, Below.refl _ _⟩))
        go_round
        case rel => exact ⟨k + 1, _, _, by omega, by go_num, rfl, rfl, by omega, by omega, by omega⟩
        case measure => simp [intOf]; omega
      · go_wp2
        go_loop [9, 12, 13] (fun z q i => ∃ (k : Nat) (N Q : Int), k ≤ s ∧ i = .int .i64 k ∧ z = .int .i64 N ∧ q = .int .i64 Q ∧ 0 ≤ N ∧ 0 ≤ Q ∧ Q ≤ N + k ∧ N ≤ 1048576) (fun _ _ i => s - (intOf i).toNat)
        case atStart => exact ⟨0, _, _, Nat.zero_le _, rfl, rfl, rfl, by omega, by omega, by omega, by omega⟩
        case round =>
          obtain ⟨k2, N2, Q2, hk2, rfl, rfl, rfl, hN20, hQ0, hQN, hN21⟩ := hrel
          by_cases hlt2 : k2 < s
          · obtain ⟨b, off, hb, _, hc⟩ := HS.out.1.at (by rw [← HSl.out]; omega)
            have hkS : k2 < S.length := by rw [← HSl.out]; exact hlt2
            have hck := hc k2 hkS
            obtain ⟨x, hx⟩ : ∃ x, x = S.getD k2 eS := ⟨_, rfl⟩
            rw [← hx] at hck
            have hxs : x.size ≤ 1048576 := HXS.out x (by rw [hx]; simp [List.getD_eq_getElem?_getD, hkS])
            subst hb
            clear hx hc
            go_wp2
            all_goals (try (go_ret; exact ⟨rfl, Below.refl _ _⟩))
            go_round
            case rel => exact ⟨k2 + 1, _, _, by omega, by go_num, rfl, rfl, by omega, by omega, by omega, by omega⟩
            case measure => simp [intOf]; omega
          · obtain ⟨o, ho⟩ : ∃ o : Nat, o = l + 2 := ⟨_, rfl⟩
            have hoI : (l : Int) + 2 = (o : Int) := by omega
            have ho1 : 2 ≤ o := by omega
            have ho2 : o ≤ 4098 := by omega
            have HO : Hid (o = l + 2) := ho
            obtain ⟨P, hP⟩ : ∃ P : Nat, P = o * (1 + s) := ⟨_, rfl⟩
            have hPI : (o : Int) * (1 + (s : Int)) = (P : Int) := by rw [hP]; simp
            have hPb : P ≤ 4098 * 4097 := by rw [hP]; exact Nat.mul_le_mul ho2 (by omega)
            have HP : Hid (P = o * (1 + s)) := hP
            have hM3 : M ≤ 1048576 := by omega
            have hQ3 : Q2 ≤ 1052672 := by omega
            have hq1 : (1 + (s : Int)) * M ≤ 4097 * 1048576 := Int.mul_le_mul (by omega) hM3 hM0 (by omega)
            have hq1' : 0 ≤ (1 + (s : Int)) * M := Int.mul_nonneg (by omega) hM0
            have hq2 : (o : Int) * Q2 ≤ 4098 * 1052672 := Int.mul_le_mul (by omega) hQ3 hQ0 (by omega)
            have hq2' : 0 ≤ (o : Int) * Q2 := Int.mul_nonneg (by omega) hQ0
            clear ho hP
            go_wp2_with fail
            all_goals (try (go_ret; exact ⟨rfl, Below.refl _ _⟩))
            have hP20 : P ≤ 1048576 := by omega
            have HC1 : Calls Try.prog 13 #[.slice aA l cA] w fun e w' => ∃ a', e = .returned (.slice a' l l) ∧ (a' = none → L = []) ∧ SRow w' a' L ∧ Below w.heap.size w w' := by
              rw [HL.out]
              exact clone_any aA cA L w HA.out.1 HA.out.2 (by rw [← HL.out]; omega)
            refine HC1.mono ?_
            rintro e w1 ⟨a1, rfl, hn1, hr1, hbel1⟩
            have HC2 : Calls Try.prog 13 #[.slice aS s cS] w1 fun e w' => ∃ a', e = .returned (.slice a' s s) ∧ (a' = none → S = []) ∧ SRow w' a' S ∧ Below w1.heap.size w1 w' := by
              rw [HSl.out]
              exact clone_any aS cS S w1 (HS.out.1.mono hbel1) HS.out.2 (by rw [← HSl.out]; omega)
            clear HC1
            go_wp2_with fail
            refine HC2.mono ?_
            rintro e w2 ⟨a2, rfl, hn2, hr2, hbel2⟩
            clear HC2
            have hbw2 : Below w.heap.size w w2 := hbel1.trans (hbel2.mono hbel1.size)
            have hr1' := hr1.mono hbel2
            obtain ⟨bs, hbs⟩ : ∃ bs, bs = baseOf g r L := ⟨_, rfl⟩
            have HBO : Hid (bs.length = o) := (show _ = _ by rw [hbs, base_len, ← HL.out]; exact HO.out.symm)
            have HNL : Hid ((namesOf bs S).length = P) := (show _ = _ by rw [names_len, HBO.out, ← HSl.out, HP.out, Nat.mul_add, Nat.mul_one, Nat.mul_comm s o])
            have HBB : Hid (∀ x ∈ baseOf g r L, x.size ≤ 1048576) := by
              intro x hx
              simp [baseOf] at hx
              rcases hx with rfl | hx | rfl
              · exact hgB
              · exact HXA.out x hx
              · exact hrB
            have HNM : Calls Try.prog 14 #[.string g, .string r, .slice a1 l l, .slice a2 s s] w2 fun e w' => ∃ g' cap, e = .returned (.slice (some ⟨g', 0, none⟩) P cap) ∧ SOwn w2.heap.size w' g' cap (namesOf bs S) ∧ Below w2.heap.size w2 w' := by
              have h := ZZnames_any (names_any g r a1 a2 S.length L S w2 hr1' hn1 hr2 (by rw [← HL.out]; omega) (by rw [← HSl.out]; omega) (by rw [← HL.out, ← HSl.out, ← HO.out, ← HP.out]; exact hP20) HBB.out HXS.out)
              rw [← HL.out, ← HSl.out] at h
              rw [← HNL.out, hbs]
              exact h
            clear hr1
            go_wp2_with fail
            refine HNM.mono ?_
            rintro e w3 ⟨gN, cN, rfl, hown3, hbel3⟩
            have hbw3 : Below w.heap.size w w3 := hbw2.trans (hbel3.mono hbw2.size)
            have hrA3 := hr1'.mono hbel3
            have hrS3 := hr2.mono hbel3
            have HRB : Hid (∀ p : Nat, p < o → Calls Try.prog 15 #[.string g, .string r, .slice a1 l l, .int .i64 p] w3 fun e w' => e = .returned (.string (bs.getD p eS)) ∧ w3 = w') := by
              intro p hp
              have h := replicaBase_any g r a1 l L p w3 hrA3 (by rw [← HL.out]; omega) (by rw [← HL.out, ← HO.out]; exact hp)
              rw [← HL.out] at h
              rw [hbs]
              exact h
            have HBB2 : Hid (∀ x ∈ bs, x.size ≤ 1048576) := by rw [hbs]; exact HBB.out
            clear HNM hr1' hr2 hbs HBB hrA3 hn1 hn2
            go_wp2
            go_loop [18] (fun i => ∃ k : Nat, k ≤ P ∧ i = .int .i64 k) (fun i => P - (intOf i).toNat)
            case atStart => exact ⟨0, Nat.zero_le _, rfl⟩
            case round =>
              obtain ⟨k, hkP, rfl⟩ := hrel
              by_cases hkl : k < P
              · obtain ⟨b, hb⟩ : ∃ b, b = k / o := ⟨_, rfl⟩
                obtain ⟨p, hp⟩ : ∃ p, p = k % o := ⟨_, rfl⟩
                have hbI : (k : Int) / (o : Int) = (b : Int) := by rw [hb]; simp
                have hpI : (k : Int) % (o : Int) = (p : Int) := by rw [hp]; simp
                have hpo : p < o := by rw [hp]; exact Nat.mod_lt _ (by omega)
                have hbs1 : b ≤ s := by
                  rw [hb]
                  have h1 : k < o * (1 + s) := by rw [← HP.out]; exact hkl
                  have := (Nat.div_lt_iff_lt_mul (show 0 < o by omega)).2 (by rw [Nat.mul_comm]; exact h1)
                  omega
                have hcell := hown3.cell (j := k) (by rw [HNL.out]; exact hkl)
                obtain ⟨y, hy⟩ : ∃ y, y = bs.getD p eS := ⟨_, rfl⟩
                have hys : y.size ≤ 1048576 := HBB2.out y (by rw [hy]; simp [List.getD_eq_getElem?_getD, show p < bs.length by rw [HBO.out]; exact hpo])
                have HB : Hid (b = k / o ∧ p = k % o) := ⟨hb, hp⟩
                have HY : Hid (y = bs.getD p eS) := hy
                clear hb hp
                by_cases hb0 : b = 0
                · have hcy : w3.cell? ⟨gN, k, none⟩ = some (.string y) := by
                    rw [hcell, names_lo bs S (by rw [HBO.out]; omega) (by rw [HBO.out, ← HB.out.1]; exact hb0), HBO.out, ← HB.out.2, ← hy]
                  have hb0I : ¬ (0 : Int) < (b : Int) := by omega
                  clear hcell hb0
                  go_wp2_with fail
                  refine (HRB.out p hpo).mono ?_
                  rintro e w' ⟨rfl, rfl⟩
                  simp only [← hy]
                  clear hy
                  go_wp2
                  go_round
                  case rel => exact ⟨k + 1, by omega, by go_num⟩
                  case measure => simp [intOf]; omega
                · obtain ⟨q, rfl⟩ : ∃ q, b = q + 1 := ⟨b - 1, by omega⟩
                  have hqS : q < S.length := by rw [← HSl.out]; omega
                  obtain ⟨sb, off, hsb, _, hc⟩ := hrS3.at (by omega)
                  have hcq := hc q hqS
                  obtain ⟨x, hx⟩ : ∃ x, x = S.getD q eS := ⟨_, rfl⟩
                  rw [← hx] at hcq
                  have hxs : x.size ≤ 1048576 := HXS.out x (by rw [hx]; simp [List.getD_eq_getElem?_getD, hqS])
                  have hcy : w3.cell? ⟨gN, k, none⟩ = some (.string (x ++ { data := #[46] } ++ y)) := by
                    rw [hcell, names_hi bs S (by rw [HBO.out]; omega) (by rw [HBO.out, ← HB.out.1]; omega) (by rw [← names_len, HNL.out]; exact hkl), HBO.out, ← HB.out.1, ← HB.out.2, ← hy, Nat.add_sub_cancel, ← hx]
                    rfl
                  have hb0I : (0 : Int) < ((q + 1 : Nat) : Int) := by omega
                  have hsz1 : ¬ 9223372036854775807 < x.size + 1 := by omega
                  have hsz2 : ¬ 9223372036854775807 < x.size + 1 + y.size := by omega
                  subst hsb
                  clear hcell hb0 hx hc
                  go_wp2_with fail
                  refine (HRB.out p hpo).mono ?_
                  rintro e w' ⟨rfl, rfl⟩
                  simp only [← hy]
                  clear hy
                  go_wp2
                  go_round
                  case rel => exact ⟨k + 1, by omega, by go_num⟩
                  case measure => simp [intOf]; omega
              · go_wp2
                go_ret
                exact ⟨rfl, hbw3⟩
end Go.Proofs.Qxb6002792a
