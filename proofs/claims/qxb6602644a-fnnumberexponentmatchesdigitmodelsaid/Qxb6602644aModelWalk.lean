import Derived.Test.Qxb6602644aModel
import Derived.Test.Qxb6602644aAtMost
import Derived.Laws.CopyOwn
namespace Go.Proofs.Qxb6602644a
open Go.RowKit

theorem Try.info5m : (Try.prog.info? 5).map (fun i => (i.zero, i.size, i.bytes)) = some (some (.int .u8 0), 1, 1) := by kernel_rfl

/-- The bound as a string. -/
def limS : ByteArray := { data := #[49, 48, 55, 51, 55, 52, 49, 56, 50, 50] }
theorem limS_size : limS.size = 10 := rfl
theorem limS_at : ∀ k (h : k < limS.size), (limS[k].toNat : Int) = LIM.getD k 0 := by
  intro k h
  have h' : k < 10 := h
  rcases (show k = 0 ∨ k = 1 ∨ k = 2 ∨ k = 3 ∨ k = 4 ∨ k = 5 ∨ k = 6 ∨ k = 7 ∨ k = 8 ∨ k = 9 by omega) with rfl | rfl | rfl | rfl | rfl | rfl | rfl | rfl | rfl | rfl <;> rfl

theorem answers_to {sgn n m : Int} {ds : List Int} {e : Ending} (hm : num ds = m) (hs : sgn * m = n) (h : Answers sgn ds e) :
    (m ≤ 1073741822 ∧ e = .returned (.tuple #[.int .i64 n, .bool true])) ∨ (1073741822 < m ∧ e = .returned (.tuple #[.int .i64 0, .bool false])) := by
  unfold Answers at h
  rw [hm, hs] at h
  exact h

theorem made_block {w1 : World} {base n g : Nat} {e : TypeId} {xs : List Value} (h : w1.ownsRow base e 1 (.slice (some ⟨g, 0, none⟩) n n) n xs) : w1.heap[g]? = some (.cells xs.toArray e (0, 0)) := by
  rcases h.2 with ⟨h1, _⟩ | ⟨g', cap, cur, h1, _, hh, _, _, hs, ht⟩
  · cases h1
  · simp at h1
    obtain ⟨rfl, rfl⟩ := h1
    rw [hh, ← ht, List.take_of_length_le (by simp [hs])]

theorem bytes_ok (a : Option Addr) (n cap : Nat) (w : World) (h : n ≤ 1048576) : Calls Try.prog 13 #[.slice a n cap] w fun e w' => e = .returned (.bool true) ∧ w = w' := by
  have h' : ¬ (1048576 : Int) < (n : Int) := by omega
  go_enter Try.func13, Try.ntmps13
  go_wp2
  go_ret
  exact ⟨rfl, rfl⟩

theorem model_long (a : Option Addr) (n cap : Nat) (w : World) (h : 1048576 < n) (hm : n ≤ 9223372036854775807) : Calls Try.prog 6 #[.slice a n cap] w fun e w' => e = .returned (.bool true) ∧ Below w.heap.size w w' := by
  have h' : (1048576 : Int) < (n : Int) := by omega
  go_enter Try.func6, Try.ntmps6
  go_wp2
  go_ret
  exact ⟨rfl, Below.refl _ _⟩

theorem model_empty (a : Option Addr) (cap : Nat) (w : World) : Calls Try.prog 6 #[.slice a 0 cap] w fun e w' => e = .returned (.bool true) ∧ Below w.heap.size w w' := by
  go_enter Try.func6, Try.ntmps6
  go_wp2
  go_ret
  exact ⟨rfl, Below.refl _ _⟩

theorem digs255_plain (ds : List Int) (hd : Digs ds) : ∀ j, 0 ≤ ds.getD j 0 ∧ ds.getD j 0 ≤ 255 := by
  intro j
  by_cases h : j < ds.length
  · have := hd.getD h; omega
  · simp [List.getD_eq_getElem?_getD, List.getElem?_eq_none (show ds.length ≤ j by omega)]
theorem digs255_sign (c : Int) (hc : 0 ≤ c ∧ c ≤ 255) {ds : List Int} (hd : Digs ds) : ∀ j, 0 ≤ (c :: ds).getD j 0 ∧ (c :: ds).getD j 0 ≤ 255 := by
  intro j
  cases j with
  | zero => simpa using hc
  | succ j => have := digs255_plain ds hd j; simpa using this
theorem row_cell {w : World} {g : Nat} {L : List Int} {t : TypeId} (h : w.heap[g]? = some (.cells (L.map (Value.int .u8)).toArray t (0, 0))) {j : Nat} (hj : j < L.length) : w.cell? ⟨g, j, none⟩ = some (.int .u8 (L.getD j 0)) := by
  rw [cell_of_row w g j _ t (0, 0) h]
  simp [hj]

set_option maxHeartbeats 2000000 in
theorem model_plain (b off cap : Nat) (ds : List Int) (w : World) (hle0 : (ds).length ≤ cap) (hcap : cap ≤ 9223372036854775807) (hlen : (ds).length ≤ 1048576) (hd : Digs ds) (hdp : 0 < ds.length)
    (hcell : ∀ j, j < (ds).length → w.cell? ⟨b, off + j, none⟩ = some (.int .u8 ((ds).getD j 0))) :
    Calls Try.prog 6 #[.slice (some ⟨b, off, none⟩) (ds).length cap] w fun e w' => e = .returned (.bool true) ∧ Below w.heap.size w w' := by
  obtain ⟨i0, hi, hz0, hz1, hz2⟩ := info_parts Try.info5m
  obtain ⟨n, hn⟩ : ∃ n, n = ds.length := ⟨_, rfl⟩
  have hnT : n = (ds).length := by rw [hn]
  have hb255 : ∀ j, 0 ≤ (ds).getD j 0 ∧ (ds).getD j 0 ≤ 255 := digs255_plain ds hd
  have HISE := isExp_any b off cap (ds) w hle0 hcap (by omega) hb255 hcell
  rw [← hnT] at HISE hlen hcell hle0
  rw [← hnT]
  have HN : Hid (n = ds.length) := hn
  have HNT : Hid (n = (ds).length) := hnT
  have HCELL : Hid (∀ j, j < n → w.cell? ⟨b, off + j, none⟩ = some (.int .u8 ((ds).getD j 0))) := hcell
  have hn1 : 1 ≤ n := by omega
  have hn20 : ¬ (1048576 : Int) < (n : Int) := by omega
  clear hb255 hn hnT hcell
  go_enter Try.func6, Try.ntmps6
  go_wp2_with fail
  refine (bytes_ok _ _ _ _ hlen).mono ?_
  rintro e w' ⟨rfl, rfl⟩
  go_wp2_with fail
  refine HISE.mono ?_
  rintro e w' ⟨r, rfl, rfl, _⟩
  cases r with
  | false =>
    go_wp2
    go_ret
    exact ⟨rfl, Below.refl _ _⟩
  | true =>
    go_wp2_with (at_make; refine wpList_make_full _ rfl _ _ 25 rfl w.heap.size 5 i0 (.int .u8 0) 1 Try.underlying25 hi hz0 hz1 _ _ _ _ n rfl rfl rfl rfl ?b2 ?b3 ?b4 ?_)
    case b2 => rw [hz2]; omega
    case b3 => unfold maxLen; omega
    case b4 => exact Nat.le_refl _
    intro w2 hown hgrow
    have HBLK : Hid _ := made_block hown
    have hb2 : Below w.heap.size w w2 := (Below.refl _ _).grown hgrow (Nat.le_refl _) (fun k hk => by cases hk)
    have hG2 : w.heap.size < w2.heap.size := lt_of_block HBLK.out
    obtain ⟨cur, hcur⟩ : ∃ cur, cur = (madeCells #[Value.int IntKind.u8 0] n).toList := ⟨_, rfl⟩
    have hown1 := hown.1
    simp only [Nat.mul_one] at hown1 HBLK
    rw [← hcur] at HBLK hown1
    have HCL : Hid (cur.length = n) := hown1
    clear hown hgrow hcur hown1
    obtain ⟨cs, hcs⟩ : ∃ cs, cs = (ds).map (Value.int .u8) := ⟨_, rfl⟩
    have HCS : Hid (cs = (ds).map (Value.int .u8) ∧ cs.length = n) := ⟨hcs, by rw [hcs, HNT.out]; simp⟩
    clear hcs
    have hsrc : Hid (∀ j v, cs[j]? = some v → w2.cell? ((⟨b, off, none⟩ : Addr).add j) = some v) := by
      intro j v hv
      rw [HCS.out.1] at hv
      simp only [List.getElem?_map, Option.map_eq_some_iff] at hv
      obtain ⟨c, hc, rfl⟩ := hv
      have hjl : j < (ds).length := (List.getElem?_eq_some_iff.1 hc).1
      have h1 := HCELL.out j (by rw [HNT.out]; exact hjl)
      rw [Addr.add_lit, hb2.cell (block_lt_of_cell h1), h1]
      simp only [List.getD_eq_getElem?_getD, hc, Option.getD_some]
    go_wp2_with (refine wpList_copy_splice rfl (.tmp 24) (.tmp 25) 25 25 rfl 5 Try.underlying25 (by rw [hi]; simp [hz1]) _ _ _ _ _ _ rfl rfl w.heap.size 0 cur 5 HBLK.out cs ?hn ?hpos ?hfit ?hone w.heap.size w hb2 (Nat.le_refl _) ?_)
    case hn => rw [HCS.out.2]; simp
    case hpos =>
      intro _ j v hv
      have := hsrc.out j v hv
      rwa [Addr.add_lit] at this
    case hfit => have := HCS.out; have := HCL.out; omega
    case hone =>
      intro v hv
      rw [HCS.out.1] at hv
      exact ints_oneCell _ _ v hv
    intro w3 HG3 hb3
    have hg3 := HG3.out
    have hsp : splice cur 0 cs = (ds).map (Value.int .u8) := by
      have h1 := HCS.out.1
      have h2 := HCS.out.2
      have h3 := HCL.out
      unfold splice
      rw [List.drop_of_length_le (by omega), h1]
      simp
    rw [hsp] at hg3
    have hcell3 : ∀ j, j < (ds).length → w3.cell? ⟨w.heap.size, j, none⟩ = some (.int .u8 ((ds).getD j 0)) := fun j hj => row_cell hg3 hj
    have hG3 : w.heap.size < w3.heap.size := lt_of_block hg3
    have hds3 : Hid (∀ j, j < ds.length → w3.cell? ⟨w.heap.size, j, none⟩ = some (.int .u8 (ds.getD j 0))) := fun j hj => hcell3 j (by simpa using hj)
    have HS15 : Hid (Calls Try.prog 15 #[.slice (some ⟨w.heap.size, 0, none⟩) n n] w3 fun e w' => Answers (1) ds e ∧ Below w3.heap.size w3 w') := by
      have H := ZZnumExp (numExp_plain w.heap.size 0 n ds w3 (by have := HN.out; omega) (by omega) hd hdp (fun j hj => by rw [Nat.zero_add]; exact hcell3 j (by simpa using hj)))
      rw [← HN.out] at H
      exact H
    have hx0 := hd.getD hdp
    obtain ⟨x, hx⟩ : ∃ x, x = ds.getD 0 0 := ⟨_, rfl⟩
    have hc0 : w3.cell? ⟨w.heap.size, 0, none⟩ = some (.int .u8 x) := by rw [hx]; exact hcell3 0 (by simpa using hdp)
    rw [← hx] at hx0
    have e45 : (x == 45) = false := by simp; omega
    have e43 : (x == 43) = false := by simp; omega
    clear hx
    have hnI : (0 : Int) < (n : Int) := by omega
    clear hcell3 hg3 hsp HG3 hsrc HCS HCL HBLK HCELL hb2 hG2 HISE hle0
    go_wp2
    go_loop [6] (fun i => ∃ k : Nat, k ≤ ds.length ∧ i = .int .i64 (k : Nat) ∧ Hid (∀ j, j < k → ds.getD j 0 = 48)) (fun i => n - (intOf i).toNat)
    case atStart => exact ⟨0, Nat.zero_le _, rfl, fun j h => by omega⟩
    case round =>
      obtain ⟨k, hk, rfl, HZ⟩ := hrel
      have hNo : n = ds.length := HN.out
      have hkn : k ≤ n := by omega
      by_cases hkl : k < ds.length
      · have hck := hds3.out k hkl
        obtain ⟨y, hy⟩ : ∃ y, y = ds.getD k 0 := ⟨_, rfl⟩
        rw [← hy] at hck
        have HY : Hid (y = ds.getD k 0) := hy
        have hklt : k < n := by omega
        have hyb : 48 ≤ y ∧ y ≤ 57 := by rw [hy]; exact hd.getD hkl
        clear hy hNo
        by_cases hy48 : y = 48
        · have hy' : (y == 48) = true := by simp [hy48]
          clear hds3
          go_wp2
          go_round
          case rel =>
            refine ⟨k + 1, by omega, by go_num, fun j hj => ?_⟩
            rcases Nat.lt_or_ge j k with h | h
            · exact HZ.out j h
            · have : j = k := by omega
              rw [this, ← HY.out, hy48]
          case measure => simp [intOf]; omega
        · have hy' : (y == 48) = false := by simp [hy48]
          obtain ⟨sig, hsig⟩ : ∃ sig, sig = ds.drop k := ⟨_, rfl⟩
          have HSL : Hid (sig.length = n - (k)) := (show _ = _ by rw [hsig]; simp; have := HN.out; omega)
          have hzs : sig = [] ∨ sig.getD 0 0 ≠ 48 := by
            right
            rw [hsig]
            have : (ds.drop k).getD 0 0 = y := by rw [HY.out]; simp
            rw [this]
            exact hy48
          have hcap' : ¬ n = k := by omega
          have hds : Digs sig := by rw [hsig]; exact hd.drop k
          have HNS : Hid (num sig = num ds) := by rw [hsig]; exact num_drop_zeros HZ.out hk
          have hcs3 : ∀ j, j < sig.length → w3.cell? ⟨w.heap.size, k + j, none⟩ = some (.int .u8 (sig.getD j 0)) := by
            intro j hj
            rw [hsig] at hj
            simp at hj
            rw [hds3.out (k + j) (by omega), hsig]
            simp
          clear hsig hds3
          have HM : Hid (sig.length = n - (k)) := HSL.out
          go_wp2_with fail
          refine HS15.out.mono ?_
          rintro e w4 ⟨ha, hb4⟩
          have hG4 : w.heap.size < w4.heap.size := Nat.lt_of_lt_of_le hG3 hb4.size
          have hcs4 : ∀ j, j < sig.length → w4.cell? ⟨w.heap.size, k + j, none⟩ = some (.int .u8 (sig.getD j 0)) := fun j hj => (hb4.cell (by exact hG3)).trans (hcs3 j hj)
          have H16 : Calls Try.prog 16 #[.slice (some ⟨w.heap.size, k, none⟩) (n - (k)) (n - (k)), .string limS] w4 (AtMostEnds sig w4) := by
            rw [← HM.out]
            by_cases h10 : sig.length = 10
            · exact atMost_eq w.heap.size (k) sig.length sig limS w4 limS_size limS_at h10 hds hcs4
            · exact atMost_ne _ sig.length sig limS w4 limS_size h10 hds hzs
          have H16' : Hid (Calls Try.prog 16 #[.slice (some ⟨w.heap.size, k, none⟩) (n - (k)) (n - (k)), .string limS] w4 (AtMostEnds sig w4)) := H16
          obtain ⟨N, hN⟩ : ∃ N, N = num ds := ⟨_, rfl⟩
          have ha' := answers_to hN.symm (show (1) * N = N by omega) ha
          have HNN : Hid (num sig = N) := by rw [hN]; exact HNS.out
          have hN0 : 0 ≤ N := by rw [← HNN.out]; exact num_nonneg _ hds
          clear H16 hcs3 HS15 ha hN HNS HZ HY
          rcases ha' with ⟨hle, rfl⟩ | ⟨hgt, rfl⟩
          · go_wp2_with fail
            refine H16'.out.mono ?_
            rintro e w5 ⟨r, rfl, hb5, hr⟩
            have hrt : r = true := hr.2 (by rw [HNN.out]; exact hle)
            subst hrt
            have hcs5 : Hid (∀ j, j < sig.length → w5.cell? ⟨w.heap.size, k + j, none⟩ = some (.int .u8 (sig.getD j 0))) := fun j hj => (hb5.cell (by exact hG4)).trans (hcs4 j hj)
            have hbw5 : Below w.heap.size w w5 := (hb3.trans (hb4.mono hb3.size)).trans (hb5.mono (Nat.le_of_lt hG4))
            clear hr hcs4 H16'
            go_wp2
            go_loop [10, 11] (fun v i => ∃ j : Nat, j ≤ n - (k) ∧ i = .int .i64 j ∧ v = .int .i64 (num (sig.take j))) (fun _ i => n - (k) - (intOf i).toNat)
            case atStart => exact ⟨0, Nat.zero_le _, rfl, rfl⟩
            case round =>
              obtain ⟨j, hj, rfl, rfl⟩ := hrel
              by_cases hjl : j < n - (k)
              · have hjs : j < sig.length := by rw [HM.out]; exact hjl
                have hcj := hcs5.out j hjs
                have hyj := hds.getD hjs
                obtain ⟨z, hz⟩ : ∃ z, z = sig.getD j 0 := ⟨_, rfl⟩
                have HS : Hid (num (sig.take (j + 1)) = num (sig.take j) * 10 + (z - 48)) := by rw [hz]; exact num_take_succ sig j hjs
                rw [← hz] at hcj hyj
                have hn0 := num_nonneg _ (hds.take j)
                have hn1' : num (sig.take j) ≤ 1073741822 := Int.le_trans (num_take_le sig hds j) (by rw [HNN.out]; exact hle)
                obtain ⟨M, hM⟩ : ∃ M, M = num (sig.take j) := ⟨_, rfl⟩
                rw [← hM] at hn0 hn1' HS
                simp only [← hM]
                clear hz hM
                go_wp2
                go_round
                case rel => exact ⟨j + 1, by omega, by go_num, by rw [HS.out]⟩
                case measure => simp [intOf]; omega
              · have hfin : num (sig.take j) = N := by rw [List.take_of_length_le (by rw [HM.out]; omega)]; exact HNN.out
                simp only [hfin]
                clear hfin
                go_wp2
                go_ret
                exact ⟨rfl, hbw5⟩
          · go_wp2_with fail
            refine H16'.out.mono ?_
            rintro e w5 ⟨r, rfl, hb5, hr⟩
            have hrt : r = false := by
              cases r with
              | false => rfl
              | true => have := hr.1 rfl; rw [HNN.out] at this; omega
            subst hrt
            have hbw5 : Below w.heap.size w w5 := (hb3.trans (hb4.mono hb3.size)).trans (hb5.mono (Nat.le_of_lt hG4))
            clear hr hcs4 H16'
            go_wp2
            go_ret
            exact ⟨rfl, hbw5⟩
      · have hke : k = ds.length := by omega
        have hnk : n = k := by omega
        have hnum0 : num ds = 0 := by rw [← num_drop_zeros HZ.out hk, hke, List.drop_length]; rfl
        clear hNo hke hkn hkl
        subst hnk
        go_wp2_with fail
        refine HS15.out.mono ?_
        rintro e w4 ⟨ha, hb4⟩
        have hG4 : w.heap.size < w4.heap.size := Nat.lt_of_lt_of_le hG3 hb4.size
        have ha' := answers_to hnum0 (show (1) * 0 = 0 by omega) ha
        clear ha hnum0 HS15 hds3
        rcases ha' with ⟨_, rfl⟩ | ⟨hgt, rfl⟩
        · go_wp2_with fail
          refine (atMost_ne _ _ [] limS w4 limS_size (by decide) (fun c hc => by cases hc) (Or.inl rfl)).mono ?_
          rintro e w5 ⟨r, rfl, hb5, hr⟩
          have hrt : r = true := hr.2 (by decide)
          subst hrt
          have hbw5 : Below w.heap.size w w5 := (hb3.trans (hb4.mono hb3.size)).trans (hb5.mono (Nat.le_of_lt hG4))
          clear hr
          go_wp2
          refine wp_loop_rounds 1 ?_
          rw [rounds_succ]
          go_wp2
          go_ret
          exact ⟨rfl, hbw5⟩
        · omega

set_option maxHeartbeats 2000000 in
theorem model_plus (b off cap : Nat) (ds : List Int) (w : World) (hle0 : (43 :: ds).length ≤ cap) (hcap : cap ≤ 9223372036854775807) (hlen : (43 :: ds).length ≤ 1048576) (hd : Digs ds) (hdp : 0 < ds.length)
    (hcell : ∀ j, j < (43 :: ds).length → w.cell? ⟨b, off + j, none⟩ = some (.int .u8 ((43 :: ds).getD j 0))) :
    Calls Try.prog 6 #[.slice (some ⟨b, off, none⟩) (43 :: ds).length cap] w fun e w' => e = .returned (.bool true) ∧ Below w.heap.size w w' := by
  obtain ⟨i0, hi, hz0, hz1, hz2⟩ := info_parts Try.info5m
  obtain ⟨n, hn⟩ : ∃ n, n = ds.length + 1 := ⟨_, rfl⟩
  have hnT : n = (43 :: ds).length := by rw [hn]; simp
  have hb255 : ∀ j, 0 ≤ (43 :: ds).getD j 0 ∧ (43 :: ds).getD j 0 ≤ 255 := digs255_sign 43 (by omega) hd
  have HISE := isExp_any b off cap (43 :: ds) w hle0 hcap (by omega) hb255 hcell
  rw [← hnT] at HISE hlen hcell hle0
  rw [← hnT]
  have HN : Hid (n = ds.length + 1) := hn
  have HNT : Hid (n = (43 :: ds).length) := hnT
  have HCELL : Hid (∀ j, j < n → w.cell? ⟨b, off + j, none⟩ = some (.int .u8 ((43 :: ds).getD j 0))) := hcell
  have hn1 : 1 ≤ n := by omega
  have hn20 : ¬ (1048576 : Int) < (n : Int) := by omega
  clear hb255 hn hnT hcell
  go_enter Try.func6, Try.ntmps6
  go_wp2_with fail
  refine (bytes_ok _ _ _ _ hlen).mono ?_
  rintro e w' ⟨rfl, rfl⟩
  go_wp2_with fail
  refine HISE.mono ?_
  rintro e w' ⟨r, rfl, rfl, _⟩
  cases r with
  | false =>
    go_wp2
    go_ret
    exact ⟨rfl, Below.refl _ _⟩
  | true =>
    go_wp2_with (at_make; refine wpList_make_full _ rfl _ _ 25 rfl w.heap.size 5 i0 (.int .u8 0) 1 Try.underlying25 hi hz0 hz1 _ _ _ _ n rfl rfl rfl rfl ?b2 ?b3 ?b4 ?_)
    case b2 => rw [hz2]; omega
    case b3 => unfold maxLen; omega
    case b4 => exact Nat.le_refl _
    intro w2 hown hgrow
    have HBLK : Hid _ := made_block hown
    have hb2 : Below w.heap.size w w2 := (Below.refl _ _).grown hgrow (Nat.le_refl _) (fun k hk => by cases hk)
    have hG2 : w.heap.size < w2.heap.size := lt_of_block HBLK.out
    obtain ⟨cur, hcur⟩ : ∃ cur, cur = (madeCells #[Value.int IntKind.u8 0] n).toList := ⟨_, rfl⟩
    have hown1 := hown.1
    simp only [Nat.mul_one] at hown1 HBLK
    rw [← hcur] at HBLK hown1
    have HCL : Hid (cur.length = n) := hown1
    clear hown hgrow hcur hown1
    obtain ⟨cs, hcs⟩ : ∃ cs, cs = (43 :: ds).map (Value.int .u8) := ⟨_, rfl⟩
    have HCS : Hid (cs = (43 :: ds).map (Value.int .u8) ∧ cs.length = n) := ⟨hcs, by rw [hcs, HNT.out]; simp⟩
    clear hcs
    have hsrc : Hid (∀ j v, cs[j]? = some v → w2.cell? ((⟨b, off, none⟩ : Addr).add j) = some v) := by
      intro j v hv
      rw [HCS.out.1] at hv
      simp only [List.getElem?_map, Option.map_eq_some_iff] at hv
      obtain ⟨c, hc, rfl⟩ := hv
      have hjl : j < (43 :: ds).length := (List.getElem?_eq_some_iff.1 hc).1
      have h1 := HCELL.out j (by rw [HNT.out]; exact hjl)
      rw [Addr.add_lit, hb2.cell (block_lt_of_cell h1), h1]
      simp only [List.getD_eq_getElem?_getD, hc, Option.getD_some]
    go_wp2_with (refine wpList_copy_splice rfl (.tmp 24) (.tmp 25) 25 25 rfl 5 Try.underlying25 (by rw [hi]; simp [hz1]) _ _ _ _ _ _ rfl rfl w.heap.size 0 cur 5 HBLK.out cs ?hn ?hpos ?hfit ?hone w.heap.size w hb2 (Nat.le_refl _) ?_)
    case hn => rw [HCS.out.2]; simp
    case hpos =>
      intro _ j v hv
      have := hsrc.out j v hv
      rwa [Addr.add_lit] at this
    case hfit => have := HCS.out; have := HCL.out; omega
    case hone =>
      intro v hv
      rw [HCS.out.1] at hv
      exact ints_oneCell _ _ v hv
    intro w3 HG3 hb3
    have hg3 := HG3.out
    have hsp : splice cur 0 cs = (43 :: ds).map (Value.int .u8) := by
      have h1 := HCS.out.1
      have h2 := HCS.out.2
      have h3 := HCL.out
      unfold splice
      rw [List.drop_of_length_le (by omega), h1]
      simp
    rw [hsp] at hg3
    have hcell3 : ∀ j, j < (43 :: ds).length → w3.cell? ⟨w.heap.size, j, none⟩ = some (.int .u8 ((43 :: ds).getD j 0)) := fun j hj => row_cell hg3 hj
    have hG3 : w.heap.size < w3.heap.size := lt_of_block hg3
    have hds3 : Hid (∀ j, j < ds.length → w3.cell? ⟨w.heap.size, 1 + j, none⟩ = some (.int .u8 (ds.getD j 0))) := fun j hj => by have := hcell3 (j + 1) (by simp; omega); rw [show 1 + j = j + 1 by omega, this]; simp
    have HS15 : Hid (Calls Try.prog 15 #[.slice (some ⟨w.heap.size, 0, none⟩) n n] w3 fun e w' => Answers (1) ds e ∧ Below w3.heap.size w3 w') := by
      have H := ZZnumExp (numExp_plus w.heap.size 0 n ds w3 (by have := HN.out; omega) (by omega) hd hdp (by have := hcell3 0 (by simp); simpa using this) (fun j hj => by have := hcell3 (j + 1) (by simp; omega); rw [show 0 + 1 + j = j + 1 by omega, this]; simp))
      rw [← HN.out] at H
      exact H
    have hc0 : w3.cell? ⟨w.heap.size, 0, none⟩ = some (.int .u8 43) := by have := hcell3 0 (by simp); simpa using this
    have hnI : (0 : Int) < (n : Int) := by omega
    clear hcell3 hg3 hsp HG3 hsrc HCS HCL HBLK HCELL hb2 hG2 HISE hle0
    go_wp2
    go_loop [6] (fun i => ∃ k : Nat, k ≤ ds.length ∧ i = .int .i64 (1 + k : Nat) ∧ Hid (∀ j, j < k → ds.getD j 0 = 48)) (fun i => n - (intOf i).toNat)
    case atStart => exact ⟨0, Nat.zero_le _, rfl, fun j h => by omega⟩
    case round =>
      obtain ⟨k, hk, rfl, HZ⟩ := hrel
      have hNo : n = ds.length + 1 := HN.out
      have hkn : k + 1 ≤ n := by omega
      by_cases hkl : k < ds.length
      · have hck := hds3.out k hkl
        obtain ⟨y, hy⟩ : ∃ y, y = ds.getD k 0 := ⟨_, rfl⟩
        rw [← hy] at hck
        have HY : Hid (y = ds.getD k 0) := hy
        have hklt : k + 1 < n := by omega
        have hyb : 48 ≤ y ∧ y ≤ 57 := by rw [hy]; exact hd.getD hkl
        clear hy hNo
        by_cases hy48 : y = 48
        · have hy' : (y == 48) = true := by simp [hy48]
          clear hds3
          go_wp2
          go_round
          case rel =>
            refine ⟨k + 1, by omega, by go_num, fun j hj => ?_⟩
            rcases Nat.lt_or_ge j k with h | h
            · exact HZ.out j h
            · have : j = k := by omega
              rw [this, ← HY.out, hy48]
          case measure => simp [intOf]; omega
        · have hy' : (y == 48) = false := by simp [hy48]
          obtain ⟨sig, hsig⟩ : ∃ sig, sig = ds.drop k := ⟨_, rfl⟩
          have HSL : Hid (sig.length = n - (1 + k)) := (show _ = _ by rw [hsig]; simp; have := HN.out; omega)
          have hzs : sig = [] ∨ sig.getD 0 0 ≠ 48 := by
            right
            rw [hsig]
            have : (ds.drop k).getD 0 0 = y := by rw [HY.out]; simp
            rw [this]
            exact hy48
          have hcap' : ¬ n = 1 + k := by omega
          have hds : Digs sig := by rw [hsig]; exact hd.drop k
          have HNS : Hid (num sig = num ds) := by rw [hsig]; exact num_drop_zeros HZ.out hk
          have hcs3 : ∀ j, j < sig.length → w3.cell? ⟨w.heap.size, 1 + k + j, none⟩ = some (.int .u8 (sig.getD j 0)) := by
            intro j hj
            rw [hsig] at hj
            simp at hj
            rw [Nat.add_assoc, hds3.out (k + j) (by omega), hsig]
            simp
          clear hsig hds3
          have HM : Hid (sig.length = n - (1 + k)) := HSL.out
          go_wp2_with fail
          refine HS15.out.mono ?_
          rintro e w4 ⟨ha, hb4⟩
          have hG4 : w.heap.size < w4.heap.size := Nat.lt_of_lt_of_le hG3 hb4.size
          have hcs4 : ∀ j, j < sig.length → w4.cell? ⟨w.heap.size, 1 + k + j, none⟩ = some (.int .u8 (sig.getD j 0)) := fun j hj => (hb4.cell (by exact hG3)).trans (hcs3 j hj)
          have H16 : Calls Try.prog 16 #[.slice (some ⟨w.heap.size, 1 + k, none⟩) (n - (1 + k)) (n - (1 + k)), .string limS] w4 (AtMostEnds sig w4) := by
            rw [← HM.out]
            by_cases h10 : sig.length = 10
            · exact atMost_eq w.heap.size (1 + k) sig.length sig limS w4 limS_size limS_at h10 hds hcs4
            · exact atMost_ne _ sig.length sig limS w4 limS_size h10 hds hzs
          have H16' : Hid (Calls Try.prog 16 #[.slice (some ⟨w.heap.size, 1 + k, none⟩) (n - (1 + k)) (n - (1 + k)), .string limS] w4 (AtMostEnds sig w4)) := H16
          obtain ⟨N, hN⟩ : ∃ N, N = num ds := ⟨_, rfl⟩
          have ha' := answers_to hN.symm (show (1) * N = N by omega) ha
          have HNN : Hid (num sig = N) := by rw [hN]; exact HNS.out
          have hN0 : 0 ≤ N := by rw [← HNN.out]; exact num_nonneg _ hds
          clear H16 hcs3 HS15 ha hN HNS HZ HY
          rcases ha' with ⟨hle, rfl⟩ | ⟨hgt, rfl⟩
          · go_wp2_with fail
            refine H16'.out.mono ?_
            rintro e w5 ⟨r, rfl, hb5, hr⟩
            have hrt : r = true := hr.2 (by rw [HNN.out]; exact hle)
            subst hrt
            have hcs5 : Hid (∀ j, j < sig.length → w5.cell? ⟨w.heap.size, 1 + k + j, none⟩ = some (.int .u8 (sig.getD j 0))) := fun j hj => (hb5.cell (by exact hG4)).trans (hcs4 j hj)
            have hbw5 : Below w.heap.size w w5 := (hb3.trans (hb4.mono hb3.size)).trans (hb5.mono (Nat.le_of_lt hG4))
            clear hr hcs4 H16'
            go_wp2
            go_loop [10, 11] (fun v i => ∃ j : Nat, j ≤ n - (1 + k) ∧ i = .int .i64 j ∧ v = .int .i64 (num (sig.take j))) (fun _ i => n - (1 + k) - (intOf i).toNat)
            case atStart => exact ⟨0, Nat.zero_le _, rfl, rfl⟩
            case round =>
              obtain ⟨j, hj, rfl, rfl⟩ := hrel
              by_cases hjl : j < n - (1 + k)
              · have hjs : j < sig.length := by rw [HM.out]; exact hjl
                have hcj := hcs5.out j hjs
                have hyj := hds.getD hjs
                obtain ⟨z, hz⟩ : ∃ z, z = sig.getD j 0 := ⟨_, rfl⟩
                have HS : Hid (num (sig.take (j + 1)) = num (sig.take j) * 10 + (z - 48)) := by rw [hz]; exact num_take_succ sig j hjs
                rw [← hz] at hcj hyj
                have hn0 := num_nonneg _ (hds.take j)
                have hn1' : num (sig.take j) ≤ 1073741822 := Int.le_trans (num_take_le sig hds j) (by rw [HNN.out]; exact hle)
                obtain ⟨M, hM⟩ : ∃ M, M = num (sig.take j) := ⟨_, rfl⟩
                rw [← hM] at hn0 hn1' HS
                simp only [← hM]
                clear hz hM
                go_wp2
                go_round
                case rel => exact ⟨j + 1, by omega, by go_num, by rw [HS.out]⟩
                case measure => simp [intOf]; omega
              · have hfin : num (sig.take j) = N := by rw [List.take_of_length_le (by rw [HM.out]; omega)]; exact HNN.out
                simp only [hfin]
                clear hfin
                go_wp2
                go_ret
                exact ⟨rfl, hbw5⟩
          · go_wp2_with fail
            refine H16'.out.mono ?_
            rintro e w5 ⟨r, rfl, hb5, hr⟩
            have hrt : r = false := by
              cases r with
              | false => rfl
              | true => have := hr.1 rfl; rw [HNN.out] at this; omega
            subst hrt
            have hbw5 : Below w.heap.size w w5 := (hb3.trans (hb4.mono hb3.size)).trans (hb5.mono (Nat.le_of_lt hG4))
            clear hr hcs4 H16'
            go_wp2
            go_ret
            exact ⟨rfl, hbw5⟩
      · have hke : k = ds.length := by omega
        have hnk : n = 1 + k := by omega
        have hnum0 : num ds = 0 := by rw [← num_drop_zeros HZ.out hk, hke, List.drop_length]; rfl
        clear hNo hke hkn hkl
        subst hnk
        go_wp2_with fail
        refine HS15.out.mono ?_
        rintro e w4 ⟨ha, hb4⟩
        have hG4 : w.heap.size < w4.heap.size := Nat.lt_of_lt_of_le hG3 hb4.size
        have ha' := answers_to hnum0 (show (1) * 0 = 0 by omega) ha
        clear ha hnum0 HS15 hds3
        rcases ha' with ⟨_, rfl⟩ | ⟨hgt, rfl⟩
        · go_wp2_with fail
          refine (atMost_ne _ _ [] limS w4 limS_size (by decide) (fun c hc => by cases hc) (Or.inl rfl)).mono ?_
          rintro e w5 ⟨r, rfl, hb5, hr⟩
          have hrt : r = true := hr.2 (by decide)
          subst hrt
          have hbw5 : Below w.heap.size w w5 := (hb3.trans (hb4.mono hb3.size)).trans (hb5.mono (Nat.le_of_lt hG4))
          clear hr
          go_wp2
          refine wp_loop_rounds 1 ?_
          rw [rounds_succ]
          go_wp2
          go_ret
          exact ⟨rfl, hbw5⟩
        · omega

set_option maxHeartbeats 2000000 in
theorem model_minus (b off cap : Nat) (ds : List Int) (w : World) (hle0 : (45 :: ds).length ≤ cap) (hcap : cap ≤ 9223372036854775807) (hlen : (45 :: ds).length ≤ 1048576) (hd : Digs ds) (hdp : 0 < ds.length)
    (hcell : ∀ j, j < (45 :: ds).length → w.cell? ⟨b, off + j, none⟩ = some (.int .u8 ((45 :: ds).getD j 0))) :
    Calls Try.prog 6 #[.slice (some ⟨b, off, none⟩) (45 :: ds).length cap] w fun e w' => e = .returned (.bool true) ∧ Below w.heap.size w w' := by
  obtain ⟨i0, hi, hz0, hz1, hz2⟩ := info_parts Try.info5m
  obtain ⟨n, hn⟩ : ∃ n, n = ds.length + 1 := ⟨_, rfl⟩
  have hnT : n = (45 :: ds).length := by rw [hn]; simp
  have hb255 : ∀ j, 0 ≤ (45 :: ds).getD j 0 ∧ (45 :: ds).getD j 0 ≤ 255 := digs255_sign 45 (by omega) hd
  have HISE := isExp_any b off cap (45 :: ds) w hle0 hcap (by omega) hb255 hcell
  rw [← hnT] at HISE hlen hcell hle0
  rw [← hnT]
  have HN : Hid (n = ds.length + 1) := hn
  have HNT : Hid (n = (45 :: ds).length) := hnT
  have HCELL : Hid (∀ j, j < n → w.cell? ⟨b, off + j, none⟩ = some (.int .u8 ((45 :: ds).getD j 0))) := hcell
  have hn1 : 1 ≤ n := by omega
  have hn20 : ¬ (1048576 : Int) < (n : Int) := by omega
  clear hb255 hn hnT hcell
  go_enter Try.func6, Try.ntmps6
  go_wp2_with fail
  refine (bytes_ok _ _ _ _ hlen).mono ?_
  rintro e w' ⟨rfl, rfl⟩
  go_wp2_with fail
  refine HISE.mono ?_
  rintro e w' ⟨r, rfl, rfl, _⟩
  cases r with
  | false =>
    go_wp2
    go_ret
    exact ⟨rfl, Below.refl _ _⟩
  | true =>
    go_wp2_with (at_make; refine wpList_make_full _ rfl _ _ 25 rfl w.heap.size 5 i0 (.int .u8 0) 1 Try.underlying25 hi hz0 hz1 _ _ _ _ n rfl rfl rfl rfl ?b2 ?b3 ?b4 ?_)
    case b2 => rw [hz2]; omega
    case b3 => unfold maxLen; omega
    case b4 => exact Nat.le_refl _
    intro w2 hown hgrow
    have HBLK : Hid _ := made_block hown
    have hb2 : Below w.heap.size w w2 := (Below.refl _ _).grown hgrow (Nat.le_refl _) (fun k hk => by cases hk)
    have hG2 : w.heap.size < w2.heap.size := lt_of_block HBLK.out
    obtain ⟨cur, hcur⟩ : ∃ cur, cur = (madeCells #[Value.int IntKind.u8 0] n).toList := ⟨_, rfl⟩
    have hown1 := hown.1
    simp only [Nat.mul_one] at hown1 HBLK
    rw [← hcur] at HBLK hown1
    have HCL : Hid (cur.length = n) := hown1
    clear hown hgrow hcur hown1
    obtain ⟨cs, hcs⟩ : ∃ cs, cs = (45 :: ds).map (Value.int .u8) := ⟨_, rfl⟩
    have HCS : Hid (cs = (45 :: ds).map (Value.int .u8) ∧ cs.length = n) := ⟨hcs, by rw [hcs, HNT.out]; simp⟩
    clear hcs
    have hsrc : Hid (∀ j v, cs[j]? = some v → w2.cell? ((⟨b, off, none⟩ : Addr).add j) = some v) := by
      intro j v hv
      rw [HCS.out.1] at hv
      simp only [List.getElem?_map, Option.map_eq_some_iff] at hv
      obtain ⟨c, hc, rfl⟩ := hv
      have hjl : j < (45 :: ds).length := (List.getElem?_eq_some_iff.1 hc).1
      have h1 := HCELL.out j (by rw [HNT.out]; exact hjl)
      rw [Addr.add_lit, hb2.cell (block_lt_of_cell h1), h1]
      simp only [List.getD_eq_getElem?_getD, hc, Option.getD_some]
    go_wp2_with (refine wpList_copy_splice rfl (.tmp 24) (.tmp 25) 25 25 rfl 5 Try.underlying25 (by rw [hi]; simp [hz1]) _ _ _ _ _ _ rfl rfl w.heap.size 0 cur 5 HBLK.out cs ?hn ?hpos ?hfit ?hone w.heap.size w hb2 (Nat.le_refl _) ?_)
    case hn => rw [HCS.out.2]; simp
    case hpos =>
      intro _ j v hv
      have := hsrc.out j v hv
      rwa [Addr.add_lit] at this
    case hfit => have := HCS.out; have := HCL.out; omega
    case hone =>
      intro v hv
      rw [HCS.out.1] at hv
      exact ints_oneCell _ _ v hv
    intro w3 HG3 hb3
    have hg3 := HG3.out
    have hsp : splice cur 0 cs = (45 :: ds).map (Value.int .u8) := by
      have h1 := HCS.out.1
      have h2 := HCS.out.2
      have h3 := HCL.out
      unfold splice
      rw [List.drop_of_length_le (by omega), h1]
      simp
    rw [hsp] at hg3
    have hcell3 : ∀ j, j < (45 :: ds).length → w3.cell? ⟨w.heap.size, j, none⟩ = some (.int .u8 ((45 :: ds).getD j 0)) := fun j hj => row_cell hg3 hj
    have hG3 : w.heap.size < w3.heap.size := lt_of_block hg3
    have hds3 : Hid (∀ j, j < ds.length → w3.cell? ⟨w.heap.size, 1 + j, none⟩ = some (.int .u8 (ds.getD j 0))) := fun j hj => by have := hcell3 (j + 1) (by simp; omega); rw [show 1 + j = j + 1 by omega, this]; simp
    have HS15 : Hid (Calls Try.prog 15 #[.slice (some ⟨w.heap.size, 0, none⟩) n n] w3 fun e w' => Answers (-1) ds e ∧ Below w3.heap.size w3 w') := by
      have H := ZZnumExp (numExp_minus w.heap.size 0 n ds w3 (by have := HN.out; omega) (by omega) hd hdp (by have := hcell3 0 (by simp); simpa using this) (fun j hj => by have := hcell3 (j + 1) (by simp; omega); rw [show 0 + 1 + j = j + 1 by omega, this]; simp))
      rw [← HN.out] at H
      exact H
    have hc0 : w3.cell? ⟨w.heap.size, 0, none⟩ = some (.int .u8 45) := by have := hcell3 0 (by simp); simpa using this
    have hnI : (0 : Int) < (n : Int) := by omega
    clear hcell3 hg3 hsp HG3 hsrc HCS HCL HBLK HCELL hb2 hG2 HISE hle0
    go_wp2
    go_loop [6] (fun i => ∃ k : Nat, k ≤ ds.length ∧ i = .int .i64 (1 + k : Nat) ∧ Hid (∀ j, j < k → ds.getD j 0 = 48)) (fun i => n - (intOf i).toNat)
    case atStart => exact ⟨0, Nat.zero_le _, rfl, fun j h => by omega⟩
    case round =>
      obtain ⟨k, hk, rfl, HZ⟩ := hrel
      have hNo : n = ds.length + 1 := HN.out
      have hkn : k + 1 ≤ n := by omega
      by_cases hkl : k < ds.length
      · have hck := hds3.out k hkl
        obtain ⟨y, hy⟩ : ∃ y, y = ds.getD k 0 := ⟨_, rfl⟩
        rw [← hy] at hck
        have HY : Hid (y = ds.getD k 0) := hy
        have hklt : k + 1 < n := by omega
        have hyb : 48 ≤ y ∧ y ≤ 57 := by rw [hy]; exact hd.getD hkl
        clear hy hNo
        by_cases hy48 : y = 48
        · have hy' : (y == 48) = true := by simp [hy48]
          clear hds3
          go_wp2
          go_round
          case rel =>
            refine ⟨k + 1, by omega, by go_num, fun j hj => ?_⟩
            rcases Nat.lt_or_ge j k with h | h
            · exact HZ.out j h
            · have : j = k := by omega
              rw [this, ← HY.out, hy48]
          case measure => simp [intOf]; omega
        · have hy' : (y == 48) = false := by simp [hy48]
          obtain ⟨sig, hsig⟩ : ∃ sig, sig = ds.drop k := ⟨_, rfl⟩
          have HSL : Hid (sig.length = n - (1 + k)) := (show _ = _ by rw [hsig]; simp; have := HN.out; omega)
          have hzs : sig = [] ∨ sig.getD 0 0 ≠ 48 := by
            right
            rw [hsig]
            have : (ds.drop k).getD 0 0 = y := by rw [HY.out]; simp
            rw [this]
            exact hy48
          have hcap' : ¬ n = 1 + k := by omega
          have hds : Digs sig := by rw [hsig]; exact hd.drop k
          have HNS : Hid (num sig = num ds) := by rw [hsig]; exact num_drop_zeros HZ.out hk
          have hcs3 : ∀ j, j < sig.length → w3.cell? ⟨w.heap.size, 1 + k + j, none⟩ = some (.int .u8 (sig.getD j 0)) := by
            intro j hj
            rw [hsig] at hj
            simp at hj
            rw [Nat.add_assoc, hds3.out (k + j) (by omega), hsig]
            simp
          clear hsig hds3
          have HM : Hid (sig.length = n - (1 + k)) := HSL.out
          go_wp2_with fail
          refine HS15.out.mono ?_
          rintro e w4 ⟨ha, hb4⟩
          have hG4 : w.heap.size < w4.heap.size := Nat.lt_of_lt_of_le hG3 hb4.size
          have hcs4 : ∀ j, j < sig.length → w4.cell? ⟨w.heap.size, 1 + k + j, none⟩ = some (.int .u8 (sig.getD j 0)) := fun j hj => (hb4.cell (by exact hG3)).trans (hcs3 j hj)
          have H16 : Calls Try.prog 16 #[.slice (some ⟨w.heap.size, 1 + k, none⟩) (n - (1 + k)) (n - (1 + k)), .string limS] w4 (AtMostEnds sig w4) := by
            rw [← HM.out]
            by_cases h10 : sig.length = 10
            · exact atMost_eq w.heap.size (1 + k) sig.length sig limS w4 limS_size limS_at h10 hds hcs4
            · exact atMost_ne _ sig.length sig limS w4 limS_size h10 hds hzs
          have H16' : Hid (Calls Try.prog 16 #[.slice (some ⟨w.heap.size, 1 + k, none⟩) (n - (1 + k)) (n - (1 + k)), .string limS] w4 (AtMostEnds sig w4)) := H16
          obtain ⟨N, hN⟩ : ∃ N, N = num ds := ⟨_, rfl⟩
          have ha' := answers_to hN.symm (show (-1) * N = -N by omega) ha
          have HNN : Hid (num sig = N) := by rw [hN]; exact HNS.out
          have hN0 : 0 ≤ N := by rw [← HNN.out]; exact num_nonneg _ hds
          clear H16 hcs3 HS15 ha hN HNS HZ HY
          rcases ha' with ⟨hle, rfl⟩ | ⟨hgt, rfl⟩
          · go_wp2_with fail
            refine H16'.out.mono ?_
            rintro e w5 ⟨r, rfl, hb5, hr⟩
            have hrt : r = true := hr.2 (by rw [HNN.out]; exact hle)
            subst hrt
            have hcs5 : Hid (∀ j, j < sig.length → w5.cell? ⟨w.heap.size, 1 + k + j, none⟩ = some (.int .u8 (sig.getD j 0))) := fun j hj => (hb5.cell (by exact hG4)).trans (hcs4 j hj)
            have hbw5 : Below w.heap.size w w5 := (hb3.trans (hb4.mono hb3.size)).trans (hb5.mono (Nat.le_of_lt hG4))
            clear hr hcs4 H16'
            go_wp2
            go_loop [10, 11] (fun v i => ∃ j : Nat, j ≤ n - (1 + k) ∧ i = .int .i64 j ∧ v = .int .i64 (num (sig.take j))) (fun _ i => n - (1 + k) - (intOf i).toNat)
            case atStart => exact ⟨0, Nat.zero_le _, rfl, rfl⟩
            case round =>
              obtain ⟨j, hj, rfl, rfl⟩ := hrel
              by_cases hjl : j < n - (1 + k)
              · have hjs : j < sig.length := by rw [HM.out]; exact hjl
                have hcj := hcs5.out j hjs
                have hyj := hds.getD hjs
                obtain ⟨z, hz⟩ : ∃ z, z = sig.getD j 0 := ⟨_, rfl⟩
                have HS : Hid (num (sig.take (j + 1)) = num (sig.take j) * 10 + (z - 48)) := by rw [hz]; exact num_take_succ sig j hjs
                rw [← hz] at hcj hyj
                have hn0 := num_nonneg _ (hds.take j)
                have hn1' : num (sig.take j) ≤ 1073741822 := Int.le_trans (num_take_le sig hds j) (by rw [HNN.out]; exact hle)
                obtain ⟨M, hM⟩ : ∃ M, M = num (sig.take j) := ⟨_, rfl⟩
                rw [← hM] at hn0 hn1' HS
                simp only [← hM]
                clear hz hM
                go_wp2
                go_round
                case rel => exact ⟨j + 1, by omega, by go_num, by rw [HS.out]⟩
                case measure => simp [intOf]; omega
              · have hfin : num (sig.take j) = N := by rw [List.take_of_length_le (by rw [HM.out]; omega)]; exact HNN.out
                simp only [hfin]
                clear hfin
                go_wp2
                go_ret
                exact ⟨rfl, hbw5⟩
          · go_wp2_with fail
            refine H16'.out.mono ?_
            rintro e w5 ⟨r, rfl, hb5, hr⟩
            have hrt : r = false := by
              cases r with
              | false => rfl
              | true => have := hr.1 rfl; rw [HNN.out] at this; omega
            subst hrt
            have hbw5 : Below w.heap.size w w5 := (hb3.trans (hb4.mono hb3.size)).trans (hb5.mono (Nat.le_of_lt hG4))
            clear hr hcs4 H16'
            go_wp2
            go_ret
            exact ⟨rfl, hbw5⟩
      · have hke : k = ds.length := by omega
        have hnk : n = 1 + k := by omega
        have hnum0 : num ds = 0 := by rw [← num_drop_zeros HZ.out hk, hke, List.drop_length]; rfl
        clear hNo hke hkn hkl
        subst hnk
        go_wp2_with fail
        refine HS15.out.mono ?_
        rintro e w4 ⟨ha, hb4⟩
        have hG4 : w.heap.size < w4.heap.size := Nat.lt_of_lt_of_le hG3 hb4.size
        have ha' := answers_to hnum0 (show (-1) * 0 = 0 by omega) ha
        clear ha hnum0 HS15 hds3
        rcases ha' with ⟨_, rfl⟩ | ⟨hgt, rfl⟩
        · go_wp2_with fail
          refine (atMost_ne _ _ [] limS w4 limS_size (by decide) (fun c hc => by cases hc) (Or.inl rfl)).mono ?_
          rintro e w5 ⟨r, rfl, hb5, hr⟩
          have hrt : r = true := hr.2 (by decide)
          subst hrt
          have hbw5 : Below w.heap.size w w5 := (hb3.trans (hb4.mono hb3.size)).trans (hb5.mono (Nat.le_of_lt hG4))
          clear hr
          go_wp2
          refine wp_loop_rounds 1 ?_
          rw [rounds_succ]
          go_wp2
          go_ret
          exact ⟨rfl, hbw5⟩
        · omega
end Go.Proofs.Qxb6602644a
