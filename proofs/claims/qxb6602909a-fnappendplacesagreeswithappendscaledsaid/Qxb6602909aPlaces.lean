/-
  appendPlaces, by its contract.
-/
import Derived.Test.Qxb6602909aBase
import Derived.Test.Qxb6602909aNum3
import Derived.Test.Qxb6602909aPairs
import Derived.BigRegion
namespace Go.Proofs.Qxb6602909a
open Go.RowKit

/-- What appendPlaces hands back. -/
def PlacesEnds (B : Nat) (L : List Int) (neg : Bool) (whole frac : Int) (w : World) (e : Ending) (w' : World) : Prop :=
  ∃ v' T, e = .returned v' ∧ Own B w' v' (L ++ T) ∧ Below B w w' ∧ PlaceText neg whole frac T

theorem Try.arrayLen40 : Try.prog.arrayLen 40 = 20 := by kernel_rfl
theorem Try.elem40 : Try.prog.elem 40 = 5 := by kernel_rfl
theorem Try.arrayLen41 : Try.prog.arrayLen 41 = 16 := by kernel_rfl
theorem Try.elem41 : Try.prog.elem 41 = 5 := by kernel_rfl
theorem slice_from40 (W : World) (b J : Nat) (hJ : J < 20) :
    (Instr.sliceAt 40 (.pointer (some ⟨b, 0, none⟩)) (some (.int .i64 (J : Int))) none none).run Try.prog W = .ok (.slice (some ⟨b, J, none⟩) (20 - J) (20 - J)) W := by
  obtain ⟨i0, hi, hz0, hz1, hz2⟩ := info_parts Try.info5
  have h := run_sliceAt_array_l (P := Try.prog) W 40 ⟨b, 0, none⟩ (by rw [Try.arrayLen40, Try.elem40]; exact Try.underlying40) .i64 (J : Int) (by omega) (by rw [Try.arrayLen40]; omega)
  rw [h, Try.elem40, Try.arrayLen40]
  simp [sizeOf, typeInfo, slicedAt, hi, hz1, Result.andThen, Addr.add_lit, show ¬ 20 = J by omega]
theorem slice_to41 (W : World) (b E : Nat) (hE : E ≤ 16) :
    (Instr.sliceAt 41 (.pointer (some ⟨b, 0, none⟩)) none (some (.int .i64 (E : Int))) none).run Try.prog W = .ok (.slice (some ⟨b, 0, none⟩) E 16) W := by
  obtain ⟨i0, hi, hz0, hz1, hz2⟩ := info_parts Try.info5
  have h := run_sliceAt_array_h (P := Try.prog) W 41 ⟨b, 0, none⟩ (by rw [Try.arrayLen41, Try.elem41]; exact Try.underlying41) .i64 (E : Int) (by omega) (by rw [Try.arrayLen41]; omega)
  rw [h, Try.elem41, Try.arrayLen41]
  simp [sizeOf, typeInfo, slicedAt, hi, hz1, Result.andThen, Addr.add_lit]

theorem uitoa_round {u U : Int} {A : List Int} {J : Nat} (hJ : J < A.length) (h : Digs (A.drop (J + 1)) ∧ U * 10 ^ (A.drop (J + 1)).length + num (A.drop (J + 1)) = u) :
    Digs ((A.set J (48 + U % 10)).drop J) ∧ (U / 10) * 10 ^ ((A.set J (48 + U % 10)).drop J).length + num ((A.set J (48 + U % 10)).drop J) = u := by
  rw [drop_set_self A J _ hJ]
  exact uitoa_step u U _ h.1 h.2

theorem pair_round {f F p : Int} {A : List Int} {H : Nat} (hH : H + 1 < A.length) (hp : p = F % 100) (h : Digs (A.drop (H + 2)) ∧ F * 10 ^ (A.drop (H + 2)).length + num (A.drop (H + 2)) = f) :
    Digs (((A.set H (48 + p / 10)).set (H + 1) (48 + p % 10)).drop H) ∧ (F / 100) * 10 ^ (((A.set H (48 + p / 10)).set (H + 1) (48 + p % 10)).drop H).length + num (((A.set H (48 + p / 10)).set (H + 1) (48 + p % 10)).drop H) = f := by
  have e : ((A.set H (48 + p / 10)).set (H + 1) (48 + p % 10)).drop H = (48 + p / 10) :: (48 + p % 10) :: A.drop (H + 2) := by
    rw [List.set_comm _ _ (by omega), drop_set_self _ _ _ (by simp; omega), drop_set_self _ _ _ (by omega)]
  rw [e, hp]
  exact pair_step f F _ h.1 h.2

theorem one_new (w : World) (x : Int) (t : TypeId) : ∀ j u, ([x].map (Value.int .u8))[j]? = some u → (w.alloc (.cells #[.int .u8 x] t)).cell? ((⟨w.heap.size, 0, none⟩ : Addr).add j) = some u := cell_one_new w (.int .u8 x) t

theorem buf_src {w : World} {D J : Nat} {t : TypeId} {A : List Int} (h : Buf w D t A) : ∀ j u, ((A.drop J).map (Value.int .u8))[j]? = some u → w.cell? ((⟨D, J, none⟩ : Addr).add j) = some u := by
  intro j u hu
  rw [List.getElem?_map] at hu
  obtain ⟨c, hc, rfl⟩ := Option.map_eq_some_iff.1 hu
  rw [List.getElem?_drop] at hc
  have hjl : J + j < A.length := (List.getElem?_eq_some_iff.1 hc).1
  rw [Addr.add_lit, h.cell hjl]
  simp [hc]

theorem buf_to {w : World} {D E : Nat} {t : TypeId} {A : List Int} (h : Buf w D t A) : ∀ j u, ((A.take E).map (Value.int .u8))[j]? = some u → w.cell? ((⟨D, 0, none⟩ : Addr).add j) = some u := by
  intro j u hu
  rw [List.getElem?_map] at hu
  obtain ⟨c, hc, rfl⟩ := Option.map_eq_some_iff.1 hu
  rw [List.getElem?_take] at hc
  split at hc
  · have hjl : j < A.length := (List.getElem?_eq_some_iff.1 hc).1
    rw [Addr.add_lit, Nat.zero_add, h.cell hjl]
    simp [List.getD_eq_getElem?_getD, hc]
  · cases hc

set_option maxRecDepth 100000 in
set_option maxHeartbeats 2000000 in
theorem places_pos (B : Nat) (v0 : Value) (L0 : List Int) (whole frac : Int) (w0 : World) (hown0 : Own B w0 v0 L0) (hB0 : B ≤ w0.heap.size) (hl : L0.length ≤ 2000000) (hw0 : 0 ≤ whole) (hw1 : whole < 18446744073709551616) (hf0 : 0 ≤ frac) (hf1 : frac < 10000000000000000) :
    Calls Try.prog 26 #[v0, .bool false, .int .u64 whole, .int .u64 frac] w0 (PlacesEnds B L0 false whole frac w0) := by
  go_enter Try.func26, Try.ntmps26
  go_wp2
  go_loopw [2, 10] (fun v i wr => ∃ (U : Int) (I : Nat) (A : List Int), I ≤ 20 ∧ v = .int .u64 U ∧ i = .int .i64 I ∧ 0 ≤ U ∧ U < 18446744073709551616 ∧ A.length = 20 ∧ (1 ≤ U ∨ I = 20) ∧ Hid (Digs (A.drop I) ∧ U * 10 ^ (A.drop I).length + num (A.drop I) = whole) ∧ Buf wr w0.heap.size 40 A ∧ Below w0.heap.size w0 wr) (fun _ i _ => (intOf i).toNat)
  case atStart => exact ⟨whole, 20, List.replicate 20 0, Nat.le_refl _, rfl, rfl, hw0, hw1, rfl, Or.inr rfl, ⟨by intro c hc; simp at hc, by simp [num]⟩, heap_alloc_new w0 _, (Below.refl _ _).alloc (Nat.le_refl _) _⟩
  case round =>
    obtain ⟨U, I, A, hI, rfl, rfl, hU0, hU1, hA, hpos, HR, hbuf, hbel⟩ := hrel
    have hI1 : 1 ≤ I := by
      rcases hpos with h | h
      · have := uitoa_room whole U (A.drop I) h HR.out.1 HR.out.2 hw1 (by simp; omega)
        simp [hA] at this
        omega
      · omega
    obtain ⟨J, rfl⟩ : ∃ J, I = J + 1 := ⟨I - 1, by omega⟩
    have HR2 : Hid _ := uitoa_round (by omega) HR.out
    have hb2 := hbuf.set J (48 + U % 10)
    have hcell := hbuf.cell (j := J) (by omega)
    have hfree := hbuf.free J
    have hbel2 := hbel.setCell (p := ⟨w0.heap.size, J, none⟩) (Nat.le_refl _) (.int .u8 (48 + U % 10))
    obtain ⟨x, hx⟩ : ∃ x, x = A.getD J 0 := ⟨_, rfl⟩
    rw [← hx] at hcell
    have HA : Hid (A.length = 20) := hA
    have HP : Hid (1 ≤ U ∨ J + 1 = 20) := hpos
    clear hx HR hpos hbuf hbel hA
    by_cases hq : U / 10 = 0
    · have hq' : (U / 10 == 0) = true := by simp [hq]
      have HW : Hid (WholeD ((A.set J (48 + U % 10)).drop J) whole) := wholeD_of HA.out (by omega) hq HP.out HR2.out
      obtain ⟨A1, hA1⟩ : ∃ A1, A1 = A.set J (48 + U % 10) := ⟨_, rfl⟩
      have HA1 : Hid (A1.length = 20) := (show _ = _ by rw [hA1]; simp [HA.out])
      have hownR : Own B (wr.setCell ⟨w0.heap.size, J, none⟩ (.int .u8 (48 + U % 10))) v0 L0 := hown0.mono hB0 hbel2
      have hBR : B ≤ (wr.setCell ⟨w0.heap.size, J, none⟩ (.int .u8 (48 + U % 10))).heap.size := Nat.le_trans hB0 hbel2.size
      have hsl := fun W => slice_from40 W w0.heap.size J (by omega)
      rw [← hA1] at HW hb2
      have HSRC : Hid _ := buf_src (J := J) hb2
      obtain ⟨ds, hds⟩ : ∃ ds, ds = A1.drop J := ⟨_, rfl⟩
      have hdl : ds.length = 20 - J := by rw [hds]; simp [HA1.out]
      rw [← hds] at HSRC HW
      have HDL : Hid (ds.length = 20 - J) := hdl
      clear hq HR2 hA1 HP HA hds hdl
      go_wp2_with (at_builtin; refine wpList_append_Own _ rfl (.tmp 31) (.tmp 33) rfl B hBR v0 L0 rfl hownR ⟨w0.heap.size, J, none⟩ (20 - J) (20 - J) ds rfl HDL.out (by omega) HSRC.out (by omega) ?_)
      intro v2 w2 hown2 hbel3 _
      have hbw2 : Below B w0 w2 := (hbel2.mono hB0).trans hbel3
      have hB2 : B ≤ w2.heap.size := Nat.le_trans hB0 hbw2.size
      clear hbel3 hownR hBR HSRC hb2 hsl hbel2 hcell hfree
      by_cases hf : frac = 0
      · subst hf
        go_wp2
        go_ret
        exact ⟨v2, sg false ++ ds, rfl, by simpa [sg] using hown2, hbw2, ds, HW.out, Or.inl ⟨rfl, rfl⟩⟩
      · have hf' : (frac == 0) = false := by simp [hf]
        go_wp2
        go_loopw [3, 12] (fun v i wr => ∃ (F : Int) (I : Nat) (A : List Int), I ≤ 16 ∧ I % 2 = 0 ∧ v = .int .u64 F ∧ i = .int .i64 I ∧ 0 ≤ F ∧ F < 10000000000000000 ∧ A.length = 16 ∧ Hid (Digs (A.drop I) ∧ F * 10 ^ (A.drop I).length + num (A.drop I) = frac) ∧ Buf wr w2.heap.size 41 A ∧ Below w2.heap.size w2 wr) (fun _ i _ => (intOf i).toNat)
        case atStart => exact ⟨frac, 16, List.replicate 16 0, Nat.le_refl _, rfl, rfl, rfl, hf0, hf1, rfl, ⟨by intro c hc; simp at hc, by simp [num]⟩, heap_alloc_new w2 _, (Below.refl _ _).alloc (Nat.le_refl _) _⟩
        case round =>
          obtain ⟨F, I, A2, hI2, hev, rfl, rfl, hF0, hF1, hA2, HR2, hbuf2, hbel4⟩ := hrel
          by_cases hIp : 0 < I
          · obtain ⟨H, rfl⟩ : ∃ H, I = H + 2 := ⟨I - 2, by omega⟩
            obtain ⟨p, hp⟩ : ∃ p, p = F % 100 := ⟨_, rfl⟩
            have hp0 : 0 ≤ p := by omega
            have hp1 : p < 100 := by omega
            have hs1 := fun W => pairs_hi W p hp0 hp1
            have hs2 := fun W => pairs_lo W p hp0 hp1
            have hs3 := fun W => pairsN_hi W p hp0 hp1
            have hs4 := fun W => pairsN_lo W p hp0 hp1
            have hc1 := hbuf2.cell (j := H) (by omega)
            have hc2 := hbuf2.cell (j := H + 1) (by omega)
            have hfr1 := hbuf2.free H
            have hfr2 := hbuf2.free (H + 1)
            obtain ⟨x1, hx1⟩ : ∃ x1, x1 = A2.getD H 0 := ⟨_, rfl⟩
            obtain ⟨x2, hx2⟩ : ∃ x2, x2 = A2.getD (H + 1) 0 := ⟨_, rfl⟩
            rw [← hx1] at hc1
            rw [← hx2] at hc2
            clear hx1 hx2
            go_wp2
            rw [← hp]
            have HP2 : Hid (p = F % 100) := hp
            clear hp
            have hb5 := (hbuf2.set H (48 + p / 10)).set (H + 1) (48 + p % 10)
            have hbel5 := (hbel4.setCell (p := ⟨w2.heap.size, H, none⟩) (Nat.le_refl _) (.int .u8 (48 + p / 10))).setCell (p := ⟨w2.heap.size, H + 1, none⟩) (Nat.le_refl _) (.int .u8 (48 + p % 10))
            have HP5 : Hid _ := pair_round (by omega) HP2.out HR2.out
            have HA2 : Hid (A2.length = 16) := hA2
            clear hbuf2 hbel4 HR2 hA2
            go_region
            clear hs1 hs2 hs3 hs4
            go_wp2
            go_roundw
            case rel => exact ⟨F / 100, H, (A2.set H (48 + p / 10)).set (H + 1) (48 + p % 10), by omega, by omega, rfl, by go_num, by omega, by omega, by simp [HA2.out], HP5.out, hb5, hbel5.drew⟩
            case measure => simp [intOf] <;> omega
          · obtain rfl : I = 0 := by omega
            have hAD : Digs A2 ∧ num A2 = frac := by
              have h1 := HR2.out
              rw [List.drop_zero] at h1
              exact ⟨h1.1, places_all hA2 h1.1 hF0 hf1 h1.2⟩
            have hAne : ¬ ∀ j, j < A2.length → A2.getD j 0 = 48 := fun h => hf (by rw [← hAD.2]; exact places_some h)
            have HAD : Hid (Digs A2 ∧ num A2 = frac ∧ A2.length = 16 ∧ ¬ ∀ j, j < A2.length → A2.getD j 0 = 48) := ⟨hAD.1, hAD.2, hA2, hAne⟩
            have hBr : B ≤ wr.heap.size := Nat.le_trans hB2 hbel4.size
            have hown4 := hown2.mono hB2 hbel4
            have hbwr : Below B w0 wr := hbw2.trans (hbel4.mono hB2)
            have hvlt : Hid (∀ k, v2.ownBlock = some k → k < w2.heap.size) := hown2.lt hB2
            clear hAD hAne HR2 hA2 hev hI2 hIp hown2
            go_wp2
            go_loop [14] (fun i => ∃ E : Nat, 1 ≤ E ∧ E ≤ 16 ∧ i = .int .i64 E ∧ Hid (∀ j, E ≤ j → j < A2.length → A2.getD j 0 = 48)) (fun i => (intOf i).toNat)
            case atStart => exact ⟨16, by omega, Nat.le_refl _, rfl, fun j h1 h2 => by have := HAD.out.2.2.1; omega⟩
            case round =>
              obtain ⟨E, hE1, hE2, rfl, HZ⟩ := hrel
              obtain ⟨e, rfl⟩ : ∃ e, E = e + 1 := ⟨E - 1, by omega⟩
              have hce := hbuf2.cell (j := e) (by have := HAD.out.2.2.1; omega)
              obtain ⟨y, hy⟩ : ∃ y, y = A2.getD e 0 := ⟨_, rfl⟩
              rw [← hy] at hce
              have HY : Hid (y = A2.getD e 0) := hy
              clear hy
              by_cases hy48 : y = 48
              · have hy' : (y == 48) = true := by simp [hy48]
                have HZ2 : Hid (∀ j, e ≤ j → j < A2.length → A2.getD j 0 = 48) := by
                  intro j h1 h2
                  rcases Nat.lt_or_ge e j with h | h
                  · exact HZ.out j h h2
                  · have : j = e := by omega
                    rw [this, ← HY.out]
                    exact hy48
                have he1 : 1 ≤ e := by
                  rcases Nat.eq_zero_or_pos e with h | h
                  · exact absurd (fun j hj => HZ2.out j (by omega) hj) HAD.out.2.2.2
                  · exact h
                go_wp2
                go_round
                case rel => exact ⟨e, he1, by omega, by go_num, HZ2⟩
                case measure => simp [intOf] <;> omega
              · have hy' : (y == 48) = false := by simp [hy48]
                have HPD : Hid (PlacesD (A2.take (e + 1)) frac) := placesD_of HAD.out.2.2.1 HAD.out.1 HAD.out.2.1 (by omega) HZ.out (by rw [← HY.out]; exact hy48)
                have hsl2 := fun W => slice_to41 W w2.heap.size (e + 1) (by omega)
                rw [show (((e + 1 : Nat) : Int)) = (e : Int) + 1 by omega] at hsl2
                have hvP : ∀ k, v2.ownBlock = some k → k < w2.heap.size := fun k hk => hvlt.out k hk
                have hds20 : ds.length ≤ 20 := by have := HDL.out; omega
                go_wp2_with (at_builtin; refine wpList_append_Own _ rfl (.tmp 66) (.tmp 67) rfl B (by simp; omega) v2 (L0 ++ ds) rfl (hown4.mono hBr ((Below.refl _ _).alloc (Nat.le_refl _) _)) ⟨wr.heap.size, 0, none⟩ 1 1 [46] rfl rfl (by omega) (one_new _ _ _) (by simp; omega) ?_)
                intro v5 w5 hown5 hbel5 hgr5
                have hb5 : Buf w5 w2.heap.size 41 A2 := by
                  refine hbuf2.keep ?_
                  rw [hgr5.block w2.heap.size (by have := hbuf2.lt; simp; omega) (fun h => by have := hvP _ h.symm; omega)]
                  exact Below.heap_alloc _ _ _ hbuf2.lt
                have hbw5 : Below B w0 w5 := (hbwr.alloc hBr _).trans hbel5
                have hB5 : B ≤ w5.heap.size := Nat.le_trans hB0 hbw5.size
                have HSRC2 : Hid _ := buf_to (E := e + 1) hb5
                have HTL : Hid ((A2.take (e + 1)).length = e + 1) := (show _ = _ by have := HAD.out.2.2.1; simp; omega)
                clear hbel5 hgr5 hb5 hvP hown4 hbuf2 hbel4 hce
                go_wp2_with (at_builtin; refine wpList_append_Own _ rfl (.tmp 69) (.tmp 71) rfl B hB5 v5 (L0 ++ (ds ++ [46])) rfl hown5 ⟨w2.heap.size, 0, none⟩ (e + 1) 16 (A2.take (e + 1)) rfl HTL.out (by omega) HSRC2.out (by simp; omega) ?_)
                intro v6 w6 hown6 hbel6 _
                go_wp2
                go_ret
                refine ⟨v6, sg false ++ ds ++ 46 :: A2.take (e + 1), rfl, ?_, hbw5.trans hbel6, ds, HW.out, Or.inr ⟨hf, A2.take (e + 1), HPD.out, rfl⟩⟩
                simpa [sg] using hown6
    · have hq' : (U / 10 == 0) = false := by simp [hq]
      go_wp2
      go_roundw
      case rel => exact ⟨U / 10, J, A.set J (48 + U % 10), by omega, rfl, by go_num, by omega, by omega, by simp [HA.out], Or.inl (by omega), HR2, hb2, hbel2⟩
      case measure => simp [intOf] <;> omega

set_option maxRecDepth 100000 in
set_option maxHeartbeats 2000000 in
theorem places_neg (B : Nat) (v : Value) (L : List Int) (whole frac : Int) (w : World) (hown : Own B w v L) (hB : B ≤ w.heap.size) (hl : L.length ≤ 2000000) (hw0 : 0 ≤ whole) (hw1 : whole < 18446744073709551616) (hf0 : 0 ≤ frac) (hf1 : frac < 10000000000000000) :
    Calls Try.prog 26 #[v, .bool true, .int .u64 whole, .int .u64 frac] w (PlacesEnds B L true whole frac w) := by
  go_enter Try.func26, Try.ntmps26
  go_wp2_with (at_builtin; refine wpList_append_Own _ rfl (.tmp 16) (.tmp 17) rfl B (by simp; omega) v L rfl (hown.mono hB ((Below.refl _ _).alloc (Nat.le_refl _) _)) ⟨w.heap.size, 0, none⟩ 1 1 [45] rfl rfl (by omega) (one_new _ _ _) (by omega) ?_)
  intro v0 w0 hown0 hbel0 _
  have hbw0 : Below B w w0 := ((Below.refl _ _).alloc hB _).trans hbel0
  have hB0 : B ≤ w0.heap.size := Nat.le_trans hB hbw0.size
  obtain ⟨L0, hL0⟩ : ∃ L0, L0 = L ++ [45] := ⟨_, rfl⟩
  rw [← hL0] at hown0
  have hl0 : L0.length ≤ 2000001 := by rw [hL0]; simp; omega
  have HL0 : Hid (L0 = L ++ sg true) := hL0
  clear hL0 hbel0 hown
  go_wp2
  go_loopw [2, 10] (fun v i wr => ∃ (U : Int) (I : Nat) (A : List Int), I ≤ 20 ∧ v = .int .u64 U ∧ i = .int .i64 I ∧ 0 ≤ U ∧ U < 18446744073709551616 ∧ A.length = 20 ∧ (1 ≤ U ∨ I = 20) ∧ Hid (Digs (A.drop I) ∧ U * 10 ^ (A.drop I).length + num (A.drop I) = whole) ∧ Buf wr w0.heap.size 40 A ∧ Below w0.heap.size w0 wr) (fun _ i _ => (intOf i).toNat)
  case atStart => exact ⟨whole, 20, List.replicate 20 0, Nat.le_refl _, rfl, rfl, hw0, hw1, rfl, Or.inr rfl, ⟨by intro c hc; simp at hc, by simp [num]⟩, heap_alloc_new w0 _, (Below.refl _ _).alloc (Nat.le_refl _) _⟩
  case round =>
    obtain ⟨U, I, A, hI, rfl, rfl, hU0, hU1, hA, hpos, HR, hbuf, hbel⟩ := hrel
    have hI1 : 1 ≤ I := by
      rcases hpos with h | h
      · have := uitoa_room whole U (A.drop I) h HR.out.1 HR.out.2 hw1 (by simp; omega)
        simp [hA] at this
        omega
      · omega
    obtain ⟨J, rfl⟩ : ∃ J, I = J + 1 := ⟨I - 1, by omega⟩
    have HR2 : Hid _ := uitoa_round (by omega) HR.out
    have hb2 := hbuf.set J (48 + U % 10)
    have hcell := hbuf.cell (j := J) (by omega)
    have hfree := hbuf.free J
    have hbel2 := hbel.setCell (p := ⟨w0.heap.size, J, none⟩) (Nat.le_refl _) (.int .u8 (48 + U % 10))
    obtain ⟨x, hx⟩ : ∃ x, x = A.getD J 0 := ⟨_, rfl⟩
    rw [← hx] at hcell
    have HA : Hid (A.length = 20) := hA
    have HP : Hid (1 ≤ U ∨ J + 1 = 20) := hpos
    clear hx HR hpos hbuf hbel hA
    by_cases hq : U / 10 = 0
    · have hq' : (U / 10 == 0) = true := by simp [hq]
      have HW : Hid (WholeD ((A.set J (48 + U % 10)).drop J) whole) := wholeD_of HA.out (by omega) hq HP.out HR2.out
      obtain ⟨A1, hA1⟩ : ∃ A1, A1 = A.set J (48 + U % 10) := ⟨_, rfl⟩
      have HA1 : Hid (A1.length = 20) := (show _ = _ by rw [hA1]; simp [HA.out])
      have hownR : Own B (wr.setCell ⟨w0.heap.size, J, none⟩ (.int .u8 (48 + U % 10))) v0 L0 := hown0.mono hB0 hbel2
      have hBR : B ≤ (wr.setCell ⟨w0.heap.size, J, none⟩ (.int .u8 (48 + U % 10))).heap.size := Nat.le_trans hB0 hbel2.size
      have hsl := fun W => slice_from40 W w0.heap.size J (by omega)
      rw [← hA1] at HW hb2
      have HSRC : Hid _ := buf_src (J := J) hb2
      obtain ⟨ds, hds⟩ : ∃ ds, ds = A1.drop J := ⟨_, rfl⟩
      have hdl : ds.length = 20 - J := by rw [hds]; simp [HA1.out]
      rw [← hds] at HSRC HW
      have HDL : Hid (ds.length = 20 - J) := hdl
      clear hq HR2 hA1 HP HA hds hdl
      go_wp2_with (at_builtin; refine wpList_append_Own _ rfl (.tmp 31) (.tmp 33) rfl B hBR v0 L0 rfl hownR ⟨w0.heap.size, J, none⟩ (20 - J) (20 - J) ds rfl HDL.out (by omega) HSRC.out (by omega) ?_)
      intro v2 w2 hown2 hbel3 _
      have hbw2 : Below B w w2 := (hbw0.trans (hbel2.mono hB0)).trans hbel3
      have hB2 : B ≤ w2.heap.size := Nat.le_trans hB hbw2.size
      clear hbel3 hownR hBR HSRC hb2 hsl hbel2 hcell hfree
      by_cases hf : frac = 0
      · subst hf
        go_wp2
        go_ret
        exact ⟨v2, sg true ++ ds, rfl, by have h9 := hown2; rw [HL0.out] at h9; simpa using h9, hbw2, ds, HW.out, Or.inl ⟨rfl, rfl⟩⟩
      · have hf' : (frac == 0) = false := by simp [hf]
        go_wp2
        go_loopw [3, 12] (fun v i wr => ∃ (F : Int) (I : Nat) (A : List Int), I ≤ 16 ∧ I % 2 = 0 ∧ v = .int .u64 F ∧ i = .int .i64 I ∧ 0 ≤ F ∧ F < 10000000000000000 ∧ A.length = 16 ∧ Hid (Digs (A.drop I) ∧ F * 10 ^ (A.drop I).length + num (A.drop I) = frac) ∧ Buf wr w2.heap.size 41 A ∧ Below w2.heap.size w2 wr) (fun _ i _ => (intOf i).toNat)
        case atStart => exact ⟨frac, 16, List.replicate 16 0, Nat.le_refl _, rfl, rfl, rfl, hf0, hf1, rfl, ⟨by intro c hc; simp at hc, by simp [num]⟩, heap_alloc_new w2 _, (Below.refl _ _).alloc (Nat.le_refl _) _⟩
        case round =>
          obtain ⟨F, I, A2, hI2, hev, rfl, rfl, hF0, hF1, hA2, HR2, hbuf2, hbel4⟩ := hrel
          by_cases hIp : 0 < I
          · obtain ⟨H, rfl⟩ : ∃ H, I = H + 2 := ⟨I - 2, by omega⟩
            obtain ⟨p, hp⟩ : ∃ p, p = F % 100 := ⟨_, rfl⟩
            have hp0 : 0 ≤ p := by omega
            have hp1 : p < 100 := by omega
            have hs1 := fun W => pairs_hi W p hp0 hp1
            have hs2 := fun W => pairs_lo W p hp0 hp1
            have hs3 := fun W => pairsN_hi W p hp0 hp1
            have hs4 := fun W => pairsN_lo W p hp0 hp1
            have hc1 := hbuf2.cell (j := H) (by omega)
            have hc2 := hbuf2.cell (j := H + 1) (by omega)
            have hfr1 := hbuf2.free H
            have hfr2 := hbuf2.free (H + 1)
            obtain ⟨x1, hx1⟩ : ∃ x1, x1 = A2.getD H 0 := ⟨_, rfl⟩
            obtain ⟨x2, hx2⟩ : ∃ x2, x2 = A2.getD (H + 1) 0 := ⟨_, rfl⟩
            rw [← hx1] at hc1
            rw [← hx2] at hc2
            clear hx1 hx2
            go_wp2
            rw [← hp]
            have HP2 : Hid (p = F % 100) := hp
            clear hp
            have hb5 := (hbuf2.set H (48 + p / 10)).set (H + 1) (48 + p % 10)
            have hbel5 := (hbel4.setCell (p := ⟨w2.heap.size, H, none⟩) (Nat.le_refl _) (.int .u8 (48 + p / 10))).setCell (p := ⟨w2.heap.size, H + 1, none⟩) (Nat.le_refl _) (.int .u8 (48 + p % 10))
            have HP5 : Hid _ := pair_round (by omega) HP2.out HR2.out
            have HA2 : Hid (A2.length = 16) := hA2
            clear hbuf2 hbel4 HR2 hA2
            go_region
            clear hs1 hs2 hs3 hs4
            go_wp2
            go_roundw
            case rel => exact ⟨F / 100, H, (A2.set H (48 + p / 10)).set (H + 1) (48 + p % 10), by omega, by omega, rfl, by go_num, by omega, by omega, by simp [HA2.out], HP5.out, hb5, hbel5.drew⟩
            case measure => simp [intOf] <;> omega
          · obtain rfl : I = 0 := by omega
            have hAD : Digs A2 ∧ num A2 = frac := by
              have h1 := HR2.out
              rw [List.drop_zero] at h1
              exact ⟨h1.1, places_all hA2 h1.1 hF0 hf1 h1.2⟩
            have hAne : ¬ ∀ j, j < A2.length → A2.getD j 0 = 48 := fun h => hf (by rw [← hAD.2]; exact places_some h)
            have HAD : Hid (Digs A2 ∧ num A2 = frac ∧ A2.length = 16 ∧ ¬ ∀ j, j < A2.length → A2.getD j 0 = 48) := ⟨hAD.1, hAD.2, hA2, hAne⟩
            have hBr : B ≤ wr.heap.size := Nat.le_trans hB2 hbel4.size
            have hown4 := hown2.mono hB2 hbel4
            have hbwr : Below B w wr := hbw2.trans (hbel4.mono hB2)
            have hvlt : Hid (∀ k, v2.ownBlock = some k → k < w2.heap.size) := hown2.lt hB2
            clear hAD hAne HR2 hA2 hev hI2 hIp hown2
            go_wp2
            go_loop [14] (fun i => ∃ E : Nat, 1 ≤ E ∧ E ≤ 16 ∧ i = .int .i64 E ∧ Hid (∀ j, E ≤ j → j < A2.length → A2.getD j 0 = 48)) (fun i => (intOf i).toNat)
            case atStart => exact ⟨16, by omega, Nat.le_refl _, rfl, fun j h1 h2 => by have := HAD.out.2.2.1; omega⟩
            case round =>
              obtain ⟨E, hE1, hE2, rfl, HZ⟩ := hrel
              obtain ⟨e, rfl⟩ : ∃ e, E = e + 1 := ⟨E - 1, by omega⟩
              have hce := hbuf2.cell (j := e) (by have := HAD.out.2.2.1; omega)
              obtain ⟨y, hy⟩ : ∃ y, y = A2.getD e 0 := ⟨_, rfl⟩
              rw [← hy] at hce
              have HY : Hid (y = A2.getD e 0) := hy
              clear hy
              by_cases hy48 : y = 48
              · have hy' : (y == 48) = true := by simp [hy48]
                have HZ2 : Hid (∀ j, e ≤ j → j < A2.length → A2.getD j 0 = 48) := by
                  intro j h1 h2
                  rcases Nat.lt_or_ge e j with h | h
                  · exact HZ.out j h h2
                  · have : j = e := by omega
                    rw [this, ← HY.out]
                    exact hy48
                have he1 : 1 ≤ e := by
                  rcases Nat.eq_zero_or_pos e with h | h
                  · exact absurd (fun j hj => HZ2.out j (by omega) hj) HAD.out.2.2.2
                  · exact h
                go_wp2
                go_round
                case rel => exact ⟨e, he1, by omega, by go_num, HZ2⟩
                case measure => simp [intOf] <;> omega
              · have hy' : (y == 48) = false := by simp [hy48]
                have HPD : Hid (PlacesD (A2.take (e + 1)) frac) := placesD_of HAD.out.2.2.1 HAD.out.1 HAD.out.2.1 (by omega) HZ.out (by rw [← HY.out]; exact hy48)
                have hsl2 := fun W => slice_to41 W w2.heap.size (e + 1) (by omega)
                rw [show (((e + 1 : Nat) : Int)) = (e : Int) + 1 by omega] at hsl2
                have hvP : ∀ k, v2.ownBlock = some k → k < w2.heap.size := fun k hk => hvlt.out k hk
                have hds20 : ds.length ≤ 20 := by have := HDL.out; omega
                go_wp2_with (at_builtin; refine wpList_append_Own _ rfl (.tmp 66) (.tmp 67) rfl B (by simp; omega) v2 (L0 ++ ds) rfl (hown4.mono hBr ((Below.refl _ _).alloc (Nat.le_refl _) _)) ⟨wr.heap.size, 0, none⟩ 1 1 [46] rfl rfl (by omega) (one_new _ _ _) (by simp; omega) ?_)
                intro v5 w5 hown5 hbel5 hgr5
                have hb5 : Buf w5 w2.heap.size 41 A2 := by
                  refine hbuf2.keep ?_
                  rw [hgr5.block w2.heap.size (by have := hbuf2.lt; simp; omega) (fun h => by have := hvP _ h.symm; omega)]
                  exact Below.heap_alloc _ _ _ hbuf2.lt
                have hbw5 : Below B w w5 := (hbwr.alloc hBr _).trans hbel5
                have hB5 : B ≤ w5.heap.size := Nat.le_trans hB hbw5.size
                have HSRC2 : Hid _ := buf_to (E := e + 1) hb5
                have HTL : Hid ((A2.take (e + 1)).length = e + 1) := (show _ = _ by have := HAD.out.2.2.1; simp; omega)
                clear hbel5 hgr5 hb5 hvP hown4 hbuf2 hbel4 hce
                go_wp2_with (at_builtin; refine wpList_append_Own _ rfl (.tmp 69) (.tmp 71) rfl B hB5 v5 (L0 ++ (ds ++ [46])) rfl hown5 ⟨w2.heap.size, 0, none⟩ (e + 1) 16 (A2.take (e + 1)) rfl HTL.out (by omega) HSRC2.out (by simp; omega) ?_)
                intro v6 w6 hown6 hbel6 _
                go_wp2
                go_ret
                refine ⟨v6, sg true ++ ds ++ 46 :: A2.take (e + 1), rfl, ?_, hbw5.trans hbel6, ds, HW.out, Or.inr ⟨hf, A2.take (e + 1), HPD.out, rfl⟩⟩
                rw [HL0.out] at hown6
                simpa using hown6
    · have hq' : (U / 10 == 0) = false := by simp [hq]
      go_wp2
      go_roundw
      case rel => exact ⟨U / 10, J, A.set J (48 + U % 10), by omega, rfl, by go_num, by omega, by omega, by simp [HA.out], Or.inl (by omega), HR2, hb2, hbel2⟩
      case measure => simp [intOf] <;> omega

theorem places_any (B : Nat) (v : Value) (L : List Int) (neg : Bool) (whole frac : Int) (w : World) (hown : Own B w v L) (hB : B ≤ w.heap.size) (hl : L.length ≤ 2000000) (hw0 : 0 ≤ whole) (hw1 : whole < 18446744073709551616) (hf0 : 0 ≤ frac) (hf1 : frac < 10000000000000000) :
    Calls Try.prog 19 #[v, .bool neg, .int .u64 whole, .int .u64 frac] w (PlacesEnds B L neg whole frac w) := by
  have H : Calls Try.prog 26 #[v, .bool neg, .int .u64 whole, .int .u64 frac] w (PlacesEnds B L neg whole frac w) := by
    cases neg
    · exact places_pos B v L whole frac w hown hB hl hw0 hw1 hf0 hf1
    · exact places_neg B v L whole frac w hown hB hl hw0 hw1 hf0 hf1
  go_enter Try.func19, Try.ntmps19
  go_wp2_with fail
  refine H.mono ?_
  rintro e w' ⟨v', T, rfl, h⟩
  go_wp2
  go_ret
  exact ⟨v', T, rfl, h⟩
end Go.Proofs.Qxb6602909a
