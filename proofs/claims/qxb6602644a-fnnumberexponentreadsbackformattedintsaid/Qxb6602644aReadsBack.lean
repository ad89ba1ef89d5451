import Derived.Test.Qxb6602644aExp
import Derived.Test.Qxb6602644aUitoa
namespace Go.Proofs.Qxb6602644a
open Go.RowKit

/-- One more byte in a row of the call's own, within its room. -/
theorem own_snoc1 {w0 wr w1 : World} {B g cap : Nat} {L : List Int} {c : Int} {o : Obj} (hb : Below B w0 wr) (hB : B ≤ w0.heap.size) (hg : B ≤ g)
    (hown : w1.ownsRow B 5 1 (.slice (some ⟨g, 0, none⟩) (L.length + 1) cap) (L.length + 1) (L.map (Value.int .u8) ++ [.int .u8 c])) (hgrow : (wr.alloc o).grownBy w1 (some g)) :
    w1.ownsRow B 5 1 (.slice (some ⟨g, 0, none⟩) (L ++ [c]).length cap) (L ++ [c]).length ((L ++ [c]).map (Value.int .u8)) ∧ Below B w0 w1 := by
  have hs := hb.size
  refine ⟨by simpa using hown, (hb.alloc (by omega) o).grown hgrow (by simp; omega) (fun k hk => ?_)⟩
  cases hk
  exact hg

/-- The answer at the text of n, as the law asks it. -/
theorem answers_at {sgn n m : Int} {ds : List Int} {e : Ending} (hm : num ds = m) (hs : sgn * m = n) (h : Answers sgn ds e) :
    (m ≤ 1073741822 ∧ e = .returned (.tuple #[.int .i64 n, .bool true])) ∨ (1073741822 < m ∧ e = .returned (.tuple #[.int .i64 0, .bool false])) := by
  unfold Answers at h
  rw [hm, hs] at h
  exact h

theorem zeros_snoc (p : List Int) (k : Nat) : p ++ List.replicate k 48 ++ [48] = p ++ List.replicate (k + 1) 48 := by
  rw [List.append_assoc, List.replicate_succ']

theorem own_cells {w : World} {base g n cap : Nat} {e : TypeId} {L : List Int} (h : w.ownsRow base e 1 (.slice (some ⟨g, 0, none⟩) n cap) n (L.map (Value.int .u8))) {j : Nat} (hj : j < L.length) : w.cell? ⟨g, j, none⟩ = some (.int .u8 (L.getD j 0)) := by
  have := h.cells (g := g) rfl j (.int .u8 (L.getD j 0)) (by simp [hj])
  rw [Addr.add_lit, Nat.zero_add] at this
  exact this

set_option maxHeartbeats 1000000 in
theorem back_minus (a0 : Int) (a1 : Bool) (z : Nat) (w : World) (hz : z ≤ 65536) (h0 : a0 < 0) (h1 : -9223372036854775808 ≤ a0) :
    Calls Try.prog 7 #[.int .i64 a0, .bool a1, .int .i64 z] w fun e w' => e = .returned (.bool true) ∧ Below w.heap.size w w' := by
  obtain ⟨i0, hi, hz0, hz1, hz2⟩ := info_parts Try.info5u
  go_enter Try.func7, Try.ntmps7
  go_wp2_with fail
  refine (uitoa_any _ w (by omega) (by omega)).mono ?_
  rintro e w1 ⟨g, ds, rfl, hdg, hnum, hd1, hd20, hg, hcd, hb1⟩
  have HN : Hid (num ds = -(a0 + 1) + 1) := hnum
  clear hnum
  go_wp2_with (at_make; refine wpList_make_own _ rfl _ _ 25 rfl w1.heap.size 5 i0 (.int .u8 0) 1 Try.underlying25 hi hz0 hz1 _ _ _ (1 + z + ds.length) rfl rfl (by omega) ?b2 ?b3 ?b4 ?_)
  case b2 => rw [hz2]; omega
  case b3 => unfold maxLen; omega
  case b4 => exact Nat.le_refl _
  intro w2 hown2 hgrow2
  have hb2 : Below w1.heap.size w1 w2 := (Below.refl _ _).grown hgrow2 (Nat.le_refl _) (fun k hk => by cases hk)
  clear hgrow2
  go_wp2_with (at_builtin; refine wpList_append_fits _ rfl (.tmp 38) (.tmp 39) 25 rfl w1.heap.size 5 i0 1 Try.underlying25 hi hz1 w1.heap.size 0 (1 + z + ds.length) [] rfl (hown2.alloc _) ⟨w2.heap.size, 0, none⟩ 1 1 [.int .u8 45] rfl rfl (cell_one_new _ _ _) (by simp [Value.oneCell']) (by omega) ?_)
  intro w3 hown3 hgrow3
  have S3 := own_snoc1 (L := []) hb2 (Nat.le_refl _) (Nat.le_refl _) hown3 hgrow3
  clear hown3 hgrow3 hown2 hb2
  obtain ⟨hown3, hb3⟩ := S3
  go_wp2
  go_loopw [9, 10] (fun v i wr => ∃ (k : Nat) (L : List Int), k ≤ z ∧ i = .int .i64 k ∧ Hid (L = [45] ++ List.replicate k 48) ∧ L.length ≤ 1 + k ∧ v = .slice (some ⟨w1.heap.size, 0, none⟩) L.length (1 + z + ds.length) ∧
      wr.ownsRow w1.heap.size 5 1 (.slice (some ⟨w1.heap.size, 0, none⟩) L.length (1 + z + ds.length)) L.length (L.map (Value.int .u8)) ∧ Below w1.heap.size w1 wr) (fun _ i _ => z - (intOf i).toNat)
  case atStart => exact ⟨0, [45], Nat.zero_le _, rfl, (show _ = _ by simp), by simp, rfl, hown3, hb3⟩
  case round =>
    obtain ⟨k, L, hk, rfl, HL, hLl, rfl, hown, hbr⟩ := hrel
    clear hown3 hb3
    by_cases hlt : k < z
    · go_wp2_with (at_builtin; refine wpList_append_fits _ rfl (.tmp 50) (.tmp 51) 25 rfl w1.heap.size 5 i0 1 Try.underlying25 hi hz1 w1.heap.size L.length (1 + z + ds.length) (L.map (Value.int .u8)) rfl (hown.alloc _) ⟨wr.heap.size, 0, none⟩ 1 1 [.int .u8 48] rfl rfl (cell_one_new _ _ _) (by simp [Value.oneCell']) (by omega) ?_)
      intro w4 hown4 hgrow4
      have S4 := own_snoc1 hbr (Nat.le_refl _) (Nat.le_refl _) hown4 hgrow4
      clear hown4 hgrow4
      go_wp2
      go_roundw
      case rel => exact ⟨k + 1, L ++ [48], by omega, by go_num, (by rw [HL.out]; exact zeros_snoc _ k), by simp; omega, by simp, S4.1, S4.2⟩
      case measure => simp [intOf]; omega
    · have hkz : k = z := by omega
      subst hkz
      have hcd' : ∀ j u, (ds.map (Value.int .u8))[j]? = some u → wr.cell? ((⟨g, 0, none⟩ : Addr).add j) = some u := by
        intro j u hu
        simp at hu
        obtain ⟨c, hc, rfl⟩ := hu
        have hjl : j < ds.length := (List.getElem?_eq_some_iff.1 hc).1
        rw [Addr.add_lit, Nat.zero_add, hbr.cell hg, hcd j hjl]
        simp [hc]
      have HC : Hid (∀ j u, (ds.map (Value.int .u8))[j]? = some u → wr.cell? ((⟨g, 0, none⟩ : Addr).add j) = some u) := hcd'
      clear hcd' hcd
      go_wp2_with (at_builtin; refine wpList_append_fits _ rfl (.tmp 53) (.tmp 54) 25 rfl w1.heap.size 5 i0 1 Try.underlying25 hi hz1 w1.heap.size L.length (1 + k + ds.length) (L.map (Value.int .u8)) rfl hown ⟨g, 0, none⟩ ds.length ds.length (ds.map (Value.int .u8)) rfl (by simp) HC.out (ints_oneCell _ _) (by omega) ?_)
      intro w5 hown5 hgrow5
      have hb5 : Below w1.heap.size w1 w5 := hbr.grown hgrow5 hbr.size (fun j hj => by cases hj; exact Nat.le_refl _)
      rw [← List.map_append] at hown5
      obtain ⟨DS, hDS⟩ : ∃ DS, DS = List.replicate k 48 ++ ds := ⟨_, rfl⟩
      have hT : L ++ ds = [45] ++ DS := by rw [HL.out, hDS, List.append_assoc]
      have hdg' : Digs DS := by rw [hDS]; exact digs_zeros k ds hdg
      have hnm : num DS = -(a0 + 1) + 1 := by rw [hDS, num_zeros]; exact HN.out
      have hlen : L.length + ds.length = DS.length + 1 := by
        have := congrArg List.length hT
        simp at this
        omega
      have hdp : 0 < DS.length := by rw [hDS]; simp; omega
      rw [hT] at hown5
      have H := ZZnumExp (numExp_minus w1.heap.size 0 (1 + k + ds.length) DS w5 (by omega) (by omega) hdg' hdp (by have := own_cells hown5 (j := 0) (by simp); simpa using this) (fun j hj => by have := own_cells hown5 (j := j + 1) (by simp; omega); rw [show 0 + 1 + j = j + 1 by omega, this]; simp))
      rw [← hlen] at H
      have H2 := H.mono (R' := fun e w' => ((-(a0 + 1) + 1) ≤ 1073741822 ∧ e = .returned (.tuple #[.int .i64 a0, .bool true]) ∨ 1073741822 < (-(a0 + 1) + 1) ∧ e = .returned (.tuple #[.int .i64 0, .bool false])) ∧ Below w5.heap.size w5 w') (fun e w' h => ⟨answers_at hnm (by omega) h.1, h.2⟩)
      have hbw5 : Below w.heap.size w w5 := hb1.trans (hb5.mono hb1.size)
      clear H hlen hT hDS hnm HC HL HN hown5 hgrow5 hb5 hown hbr
      go_wp2_with fail
      refine H2.mono ?_
      rintro e w6 ⟨ha, hb6⟩
      have hbw6 : Below w.heap.size w w6 := hbw5.trans (hb6.mono hbw5.size)
      rcases ha with ⟨hle, rfl⟩ | ⟨hgt, rfl⟩
      · go_wp2
        go_ret
        exact ⟨rfl, hbw6⟩
      · go_wp2
        go_ret
        exact ⟨rfl, hbw6⟩

set_option maxHeartbeats 1000000 in
theorem back_plus (a0 : Int)  (z : Nat) (w : World) (hz : z ≤ 65536) (h0 : 0 ≤ a0) (h1 : a0 ≤ 9223372036854775807) :
    Calls Try.prog 7 #[.int .i64 a0, .bool true, .int .i64 z] w fun e w' => e = .returned (.bool true) ∧ Below w.heap.size w w' := by
  obtain ⟨i0, hi, hz0, hz1, hz2⟩ := info_parts Try.info5u
  go_enter Try.func7, Try.ntmps7
  go_wp2_with fail
  refine (uitoa_any _ w (by omega) (by omega)).mono ?_
  rintro e w1 ⟨g, ds, rfl, hdg, hnum, hd1, hd20, hg, hcd, hb1⟩
  have HN : Hid (num ds = a0) := hnum
  clear hnum
  go_wp2_with (at_make; refine wpList_make_own _ rfl _ _ 25 rfl w1.heap.size 5 i0 (.int .u8 0) 1 Try.underlying25 hi hz0 hz1 _ _ _ (1 + z + ds.length) rfl rfl (by omega) ?b2 ?b3 ?b4 ?_)
  case b2 => rw [hz2]; omega
  case b3 => unfold maxLen; omega
  case b4 => exact Nat.le_refl _
  intro w2 hown2 hgrow2
  have hb2 : Below w1.heap.size w1 w2 := (Below.refl _ _).grown hgrow2 (Nat.le_refl _) (fun k hk => by cases hk)
  clear hgrow2
  go_wp2_with (at_builtin; refine wpList_append_fits _ rfl (.tmp 42) (.tmp 43) 25 rfl w1.heap.size 5 i0 1 Try.underlying25 hi hz1 w1.heap.size 0 (1 + z + ds.length) [] rfl (hown2.alloc _) ⟨w2.heap.size, 0, none⟩ 1 1 [.int .u8 43] rfl rfl (cell_one_new _ _ _) (by simp [Value.oneCell']) (by omega) ?_)
  intro w3 hown3 hgrow3
  have S3 := own_snoc1 (L := []) hb2 (Nat.le_refl _) (Nat.le_refl _) hown3 hgrow3
  clear hown3 hgrow3 hown2 hb2
  obtain ⟨hown3, hb3⟩ := S3
  go_wp2
  go_loopw [9, 10] (fun v i wr => ∃ (k : Nat) (L : List Int), k ≤ z ∧ i = .int .i64 k ∧ Hid (L = [43] ++ List.replicate k 48) ∧ L.length ≤ 1 + k ∧ v = .slice (some ⟨w1.heap.size, 0, none⟩) L.length (1 + z + ds.length) ∧
      wr.ownsRow w1.heap.size 5 1 (.slice (some ⟨w1.heap.size, 0, none⟩) L.length (1 + z + ds.length)) L.length (L.map (Value.int .u8)) ∧ Below w1.heap.size w1 wr) (fun _ i _ => z - (intOf i).toNat)
  case atStart => exact ⟨0, [43], Nat.zero_le _, rfl, (show _ = _ by simp), by simp, rfl, hown3, hb3⟩
  case round =>
    obtain ⟨k, L, hk, rfl, HL, hLl, rfl, hown, hbr⟩ := hrel
    clear hown3 hb3
    by_cases hlt : k < z
    · go_wp2_with (at_builtin; refine wpList_append_fits _ rfl (.tmp 50) (.tmp 51) 25 rfl w1.heap.size 5 i0 1 Try.underlying25 hi hz1 w1.heap.size L.length (1 + z + ds.length) (L.map (Value.int .u8)) rfl (hown.alloc _) ⟨wr.heap.size, 0, none⟩ 1 1 [.int .u8 48] rfl rfl (cell_one_new _ _ _) (by simp [Value.oneCell']) (by omega) ?_)
      intro w4 hown4 hgrow4
      have S4 := own_snoc1 hbr (Nat.le_refl _) (Nat.le_refl _) hown4 hgrow4
      clear hown4 hgrow4
      go_wp2
      go_roundw
      case rel => exact ⟨k + 1, L ++ [48], by omega, by go_num, (by rw [HL.out]; exact zeros_snoc _ k), by simp; omega, by simp, S4.1, S4.2⟩
      case measure => simp [intOf]; omega
    · have hkz : k = z := by omega
      subst hkz
      have hcd' : ∀ j u, (ds.map (Value.int .u8))[j]? = some u → wr.cell? ((⟨g, 0, none⟩ : Addr).add j) = some u := by
        intro j u hu
        simp at hu
        obtain ⟨c, hc, rfl⟩ := hu
        have hjl : j < ds.length := (List.getElem?_eq_some_iff.1 hc).1
        rw [Addr.add_lit, Nat.zero_add, hbr.cell hg, hcd j hjl]
        simp [hc]
      have HC : Hid (∀ j u, (ds.map (Value.int .u8))[j]? = some u → wr.cell? ((⟨g, 0, none⟩ : Addr).add j) = some u) := hcd'
      clear hcd' hcd
      go_wp2_with (at_builtin; refine wpList_append_fits _ rfl (.tmp 53) (.tmp 54) 25 rfl w1.heap.size 5 i0 1 Try.underlying25 hi hz1 w1.heap.size L.length (1 + k + ds.length) (L.map (Value.int .u8)) rfl hown ⟨g, 0, none⟩ ds.length ds.length (ds.map (Value.int .u8)) rfl (by simp) HC.out (ints_oneCell _ _) (by omega) ?_)
      intro w5 hown5 hgrow5
      have hb5 : Below w1.heap.size w1 w5 := hbr.grown hgrow5 hbr.size (fun j hj => by cases hj; exact Nat.le_refl _)
      rw [← List.map_append] at hown5
      obtain ⟨DS, hDS⟩ : ∃ DS, DS = List.replicate k 48 ++ ds := ⟨_, rfl⟩
      have hT : L ++ ds = [43] ++ DS := by rw [HL.out, hDS, List.append_assoc]
      have hdg' : Digs DS := by rw [hDS]; exact digs_zeros k ds hdg
      have hnm : num DS = a0 := by rw [hDS, num_zeros]; exact HN.out
      have hlen : L.length + ds.length = DS.length + 1 := by
        have := congrArg List.length hT
        simp at this
        omega
      have hdp : 0 < DS.length := by rw [hDS]; simp; omega
      rw [hT] at hown5
      have H := ZZnumExp (numExp_plus w1.heap.size 0 (1 + k + ds.length) DS w5 (by omega) (by omega) hdg' hdp (by have := own_cells hown5 (j := 0) (by simp); simpa using this) (fun j hj => by have := own_cells hown5 (j := j + 1) (by simp; omega); rw [show 0 + 1 + j = j + 1 by omega, this]; simp))
      rw [← hlen] at H
      have H2 := H.mono (R' := fun e w' => ((a0) ≤ 1073741822 ∧ e = .returned (.tuple #[.int .i64 a0, .bool true]) ∨ 1073741822 < (a0) ∧ e = .returned (.tuple #[.int .i64 0, .bool false])) ∧ Below w5.heap.size w5 w') (fun e w' h => ⟨answers_at hnm (by omega) h.1, h.2⟩)
      have hbw5 : Below w.heap.size w w5 := hb1.trans (hb5.mono hb1.size)
      clear H hlen hT hDS hnm HC HL HN hown5 hgrow5 hb5 hown hbr
      go_wp2_with fail
      refine H2.mono ?_
      rintro e w6 ⟨ha, hb6⟩
      have hbw6 : Below w.heap.size w w6 := hbw5.trans (hb6.mono hbw5.size)
      rcases ha with ⟨hle, rfl⟩ | ⟨hgt, rfl⟩
      · go_wp2
        go_ret
        exact ⟨rfl, hbw6⟩
      · go_wp2
        go_ret
        exact ⟨rfl, hbw6⟩

set_option maxHeartbeats 1000000 in
theorem back_plain (a0 : Int)  (z : Nat) (w : World) (hz : z ≤ 65536) (h0 : 0 ≤ a0) (h1 : a0 ≤ 9223372036854775807) :
    Calls Try.prog 7 #[.int .i64 a0, .bool false, .int .i64 z] w fun e w' => e = .returned (.bool true) ∧ Below w.heap.size w w' := by
  obtain ⟨i0, hi, hz0, hz1, hz2⟩ := info_parts Try.info5u
  go_enter Try.func7, Try.ntmps7
  go_wp2_with fail
  refine (uitoa_any _ w (by omega) (by omega)).mono ?_
  rintro e w1 ⟨g, ds, rfl, hdg, hnum, hd1, hd20, hg, hcd, hb1⟩
  have HN : Hid (num ds = a0) := hnum
  clear hnum
  go_wp2_with (at_make; refine wpList_make_own _ rfl _ _ 25 rfl w1.heap.size 5 i0 (.int .u8 0) 1 Try.underlying25 hi hz0 hz1 _ _ _ (1 + z + ds.length) rfl rfl (by omega) ?b2 ?b3 ?b4 ?_)
  case b2 => rw [hz2]; omega
  case b3 => unfold maxLen; omega
  case b4 => exact Nat.le_refl _
  intro w2 hown2 hgrow2
  have hb2 : Below w1.heap.size w1 w2 := (Below.refl _ _).grown hgrow2 (Nat.le_refl _) (fun k hk => by cases hk)
  clear hgrow2
  have hown3 := hown2
  have hb3 := hb2
  clear hown2 hb2
  go_wp2
  go_loopw [9, 10] (fun v i wr => ∃ (k : Nat) (L : List Int), k ≤ z ∧ i = .int .i64 k ∧ Hid (L = [] ++ List.replicate k 48) ∧ L.length ≤ 0 + k ∧ v = .slice (some ⟨w1.heap.size, 0, none⟩) L.length (1 + z + ds.length) ∧
      wr.ownsRow w1.heap.size 5 1 (.slice (some ⟨w1.heap.size, 0, none⟩) L.length (1 + z + ds.length)) L.length (L.map (Value.int .u8)) ∧ Below w1.heap.size w1 wr) (fun _ i _ => z - (intOf i).toNat)
  case atStart => exact ⟨0, [], Nat.zero_le _, rfl, (show _ = _ by simp), by simp, rfl, hown3, hb3⟩
  case round =>
    obtain ⟨k, L, hk, rfl, HL, hLl, rfl, hown, hbr⟩ := hrel
    clear hown3 hb3
    by_cases hlt : k < z
    · go_wp2_with (at_builtin; refine wpList_append_fits _ rfl (.tmp 50) (.tmp 51) 25 rfl w1.heap.size 5 i0 1 Try.underlying25 hi hz1 w1.heap.size L.length (1 + z + ds.length) (L.map (Value.int .u8)) rfl (hown.alloc _) ⟨wr.heap.size, 0, none⟩ 1 1 [.int .u8 48] rfl rfl (cell_one_new _ _ _) (by simp [Value.oneCell']) (by omega) ?_)
      intro w4 hown4 hgrow4
      have S4 := own_snoc1 hbr (Nat.le_refl _) (Nat.le_refl _) hown4 hgrow4
      clear hown4 hgrow4
      go_wp2
      go_roundw
      case rel => exact ⟨k + 1, L ++ [48], by omega, by go_num, (by rw [HL.out]; exact zeros_snoc _ k), by simp; omega, by simp, S4.1, S4.2⟩
      case measure => simp [intOf]; omega
    · have hkz : k = z := by omega
      subst hkz
      have hcd' : ∀ j u, (ds.map (Value.int .u8))[j]? = some u → wr.cell? ((⟨g, 0, none⟩ : Addr).add j) = some u := by
        intro j u hu
        simp at hu
        obtain ⟨c, hc, rfl⟩ := hu
        have hjl : j < ds.length := (List.getElem?_eq_some_iff.1 hc).1
        rw [Addr.add_lit, Nat.zero_add, hbr.cell hg, hcd j hjl]
        simp [hc]
      have HC : Hid (∀ j u, (ds.map (Value.int .u8))[j]? = some u → wr.cell? ((⟨g, 0, none⟩ : Addr).add j) = some u) := hcd'
      clear hcd' hcd
      go_wp2_with (at_builtin; refine wpList_append_fits _ rfl (.tmp 53) (.tmp 54) 25 rfl w1.heap.size 5 i0 1 Try.underlying25 hi hz1 w1.heap.size L.length (1 + k + ds.length) (L.map (Value.int .u8)) rfl hown ⟨g, 0, none⟩ ds.length ds.length (ds.map (Value.int .u8)) rfl (by simp) HC.out (ints_oneCell _ _) (by omega) ?_)
      intro w5 hown5 hgrow5
      have hb5 : Below w1.heap.size w1 w5 := hbr.grown hgrow5 hbr.size (fun j hj => by cases hj; exact Nat.le_refl _)
      rw [← List.map_append] at hown5
      obtain ⟨DS, hDS⟩ : ∃ DS, DS = List.replicate k 48 ++ ds := ⟨_, rfl⟩
      have hT : L ++ ds = [] ++ DS := by rw [HL.out, hDS, List.append_assoc]
      have hdg' : Digs DS := by rw [hDS]; exact digs_zeros k ds hdg
      have hnm : num DS = a0 := by rw [hDS, num_zeros]; exact HN.out
      have hlen : L.length + ds.length = DS.length := by
        have := congrArg List.length hT
        simp at this
        omega
      have hdp : 0 < DS.length := by rw [hDS]; simp; omega
      rw [hT] at hown5
      have H := ZZnumExp (numExp_plain w1.heap.size 0 (1 + k + ds.length) DS w5 (by omega) (by omega) hdg' hdp (fun j hj => by rw [Nat.zero_add]; exact own_cells hown5 (by simpa using hj)))
      rw [← hlen] at H
      have H2 := H.mono (R' := fun e w' => ((a0) ≤ 1073741822 ∧ e = .returned (.tuple #[.int .i64 a0, .bool true]) ∨ 1073741822 < (a0) ∧ e = .returned (.tuple #[.int .i64 0, .bool false])) ∧ Below w5.heap.size w5 w') (fun e w' h => ⟨answers_at hnm (by omega) h.1, h.2⟩)
      have hbw5 : Below w.heap.size w w5 := hb1.trans (hb5.mono hb1.size)
      clear H hlen hT hDS hnm HC HL HN hown5 hgrow5 hb5 hown hbr
      go_wp2_with fail
      refine H2.mono ?_
      rintro e w6 ⟨ha, hb6⟩
      have hbw6 : Below w.heap.size w w6 := hbw5.trans (hb6.mono hbw5.size)
      rcases ha with ⟨hle, rfl⟩ | ⟨hgt, rfl⟩
      · go_wp2
        go_ret
        exact ⟨rfl, hbw6⟩
      · go_wp2
        go_ret
        exact ⟨rfl, hbw6⟩

end Go.Proofs.Qxb6602644a
