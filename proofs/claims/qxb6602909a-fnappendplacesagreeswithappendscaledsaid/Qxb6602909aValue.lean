/-
  zzValueDigits_dB1, by its contract.
-/
import Derived.Test.Qxb6602909aAgreeLaw
namespace Go.Proofs.Qxb6602909a
open Go.RowKit

/-- What zzValueDigits hands back. -/
def ValueEnds (whole frac : Int) (w : World) (e : Ending) (w' : World) : Prop :=
  ∃ a c V, e = .returned (.slice a V.length c) ∧ V.length ≤ c ∧ Row w' a V ∧ ValueD whole frac V ∧ Below w.heap.size w w'

/-- What stands in the row so far: the whole part's digits, then the places; leading noughts left out. -/
def Mix (dw l T : List Int) : Prop := (dw ≠ [] ∧ T = dw ++ l) ∨ (dw = [] ∧ T = strip l)

theorem strip_snoc (l : List Int) (c : Int) : strip (l ++ [c]) = if strip l = [] ∧ c = 48 then [] else strip l ++ [c] := by
  induction l with
  | nil => by_cases h : c = 48 <;> simp [strip, h]
  | cons d l ih =>
    by_cases hd : d = 48
    · have e1 : strip (d :: l ++ [c]) = strip (l ++ [c]) := by simp [strip, hd]
      have e2 : strip (d :: l) = strip l := by simp [strip, hd]
      rw [e1, e2, ih]
    · have e1 : strip (d :: l ++ [c]) = d :: l ++ [c] := by simp [strip, hd]
      have e2 : strip (d :: l) = d :: l := by simp [strip, hd]
      rw [e1, e2, if_neg (by simp)]

theorem Mix.skip {dw l T : List Int} {c : Int} (h : Mix dw l T) (ht : T = []) (hc : c = 48) : Mix dw (l ++ [c]) T := by
  rcases h with ⟨h1, h2⟩ | ⟨h1, h2⟩
  · rw [ht] at h2
    exact absurd (List.append_eq_nil_iff.1 h2.symm).1 h1
  · refine Or.inr ⟨h1, ?_⟩
    rw [strip_snoc, if_pos ⟨by rw [← h2]; exact ht, hc⟩, ht]
theorem Mix.push {dw l T : List Int} {c : Int} (h : Mix dw l T) (hc : ¬ (T = [] ∧ c = 48)) : Mix dw (l ++ [c]) (T ++ [c]) := by
  rcases h with ⟨h1, h2⟩ | ⟨h1, h2⟩
  · exact Or.inl ⟨h1, by rw [h2]; simp⟩
  · refine Or.inr ⟨h1, ?_⟩
    rw [strip_snoc, ← h2, if_neg hc]
theorem Mix.start (dw : List Int) : Mix dw [] dw := by
  by_cases h : dw = []
  · exact Or.inr ⟨h, by rw [h]; rfl⟩
  · exact Or.inl ⟨h, by simp⟩

theorem take_set_snoc {A : List Int} {k : Nat} (h : k < A.length) (c : Int) : (A.set k c).take (k + 1) = A.take k ++ [c] := by
  rw [List.take_succ_eq_append_getElem (by simpa using h)]
  simp [List.take_set_of_le]

/-- The whole part's digits, stored from the least on. -/
def Revs (u U : Int) (ds : List Int) : Prop := Digs ds ∧ U * 10 ^ ds.length + num ds = u ∧ (U = 0 → ds = [] ∨ ds.getD 0 0 ≠ 48)
theorem Revs.step {u U : Int} {ds : List Int} (h : Revs u U ds) (hU : 1 ≤ U) : Revs u (U / 10) ((48 + U % 10) :: ds) := by
  have s := uitoa_step u U ds h.1 h.2.1
  refine ⟨s.1, s.2, fun h0 => Or.inr ?_⟩
  simp
  omega

theorem rev_drop {A : List Int} {m : Nat} (h : m < A.length) : (A.drop m).reverse = (A.drop (m + 1)).reverse ++ [A.getD m 0] := by
  rw [List.drop_eq_getElem_cons h]
  simp [h]

theorem Own.row {B : Nat} {w : World} {a : Option Addr} {n c : Nat} {L : List Int} (h : Own B w (.slice a n c) L) (hB : B ≤ w.heap.size) : n = L.length ∧ L.length ≤ c ∧ Row w a L := by
  obtain ⟨a', c', hv, hc, _, hr⟩ := h.shape hB
  simp at hv
  obtain ⟨rfl, rfl, rfl⟩ := hv
  exact ⟨rfl, hc, hr⟩

/-- A row of the call's own is no array of the call's own. -/
theorem Own.ne_buf {B F : Nat} {w : World} {v : Value} {L A : List Int} (h : Own B w v L) (hb : Buf w F 41 A) (hBF : B ≤ F) : some F ≠ v.ownBlock := by
  intro he
  rcases h with ⟨a, rfl, _, hlt, _⟩ | h
  · cases a with
    | none => simp [Value.ownBlock] at he
    | some ad =>
      simp [Value.ownBlock] at he
      have := hlt ad rfl
      omega
  · rcases h.2 with ⟨hv, _⟩ | ⟨g, cap, cur, hv, _, hh, _⟩
    · rw [hv] at he
      simp [Value.ownBlock] at he
    · rw [hv] at he
      simp [Value.ownBlock] at he
      subst he
      rw [hb] at hh
      simp at hh

theorem digit_round {u U : Int} {A : List Int} {J : Nat} (hJ : J < A.length) (h : Digs (A.drop (J + 1)) ∧ U * 10 ^ (A.drop (J + 1)).length + num (A.drop (J + 1)) = u) :
    Digs ((A.set J (48 + U % 10)).drop J) ∧ (U / 10) * 10 ^ ((A.set J (48 + U % 10)).drop J).length + num ((A.set J (48 + U % 10)).drop J) = u := by
  rw [drop_set_self A J _ hJ]
  exact uitoa_step u U _ h.1 h.2

set_option maxRecDepth 100000 in
set_option maxHeartbeats 4000000 in
theorem value_any (whole frac : Int) (w : World) (hw0 : 0 ≤ whole) (hw1 : whole < 18446744073709551616) (hf0 : 0 ≤ frac) (hf1 : frac < 10000000000000000) :
    Calls Try.prog 22 #[.int .u64 whole, .int .u64 frac] w (ValueEnds whole frac w) := by
  obtain ⟨i0, hi, hz0, hz1, hz2⟩ := info_parts Try.info5
  go_enter Try.func22, Try.ntmps22
  go_wp2
  go_loopw [0, 6] (fun v i wr => ∃ (U : Int) (k : Nat) (A : List Int), k ≤ 20 ∧ v = .int .u64 U ∧ i = .int .i64 k ∧ 0 ≤ U ∧ U < 18446744073709551616 ∧ A.length = 20 ∧ Hid (Revs whole U (A.take k).reverse) ∧ Buf wr w.heap.size 40 A ∧ Below w.heap.size w wr) (fun v _ _ => (intOf v).toNat)
  case atStart => exact ⟨whole, 0, List.replicate 20 0, Nat.zero_le _, rfl, rfl, hw0, hw1, rfl, ⟨by intro c hc; simp at hc, by simp [num], fun _ => Or.inl (by simp)⟩, heap_alloc_new w _, (Below.refl _ _).alloc (Nat.le_refl _) _⟩
  case round =>
    obtain ⟨U, k, A, hk, rfl, rfl, hU0, hU1, hA, HR, hbuf, hbel⟩ := hrel
    have HA : Hid (A.length = 20) := hA
    have hrl : (A.take k).reverse.length = k := by simp; omega
    by_cases hU : 0 < U
    · have hk20 : k < 20 := by
        have := uitoa_room whole U (A.take k).reverse (by omega) HR.out.1 HR.out.2.1 hw1 (by omega)
        omega
      have hcell := hbuf.cell (j := k) (by omega)
      have hfree := hbuf.free k
      have hb2 := hbuf.set k (48 + U % 10)
      have hbel2 := hbel.setCell (p := ⟨w.heap.size, k, none⟩) (Nat.le_refl _) (.int .u8 (48 + U % 10))
      have HR2 : Hid (Revs whole (U / 10) ((A.set k (48 + U % 10)).take (k + 1)).reverse) := by
        show Revs _ _ _
        rw [take_set_snoc (by omega), List.reverse_append]
        exact HR.out.step (by omega)
      obtain ⟨x, hx⟩ : ∃ x, x = A.getD k 0 := ⟨_, rfl⟩
      rw [← hx] at hcell
      clear hx HR hbuf hbel hA hrl
      go_wp2
      go_roundw
      case rel => exact ⟨U / 10, k + 1, A.set k (48 + U % 10), by omega, rfl, by go_num, by omega, by omega, by simp [HA.out], HR2, hb2, hbel2⟩
      case measure => simp [intOf]; omega
    · have hU00 : U = 0 := by omega
      have HDW : Hid (Digs (A.take k).reverse ∧ num (A.take k).reverse = whole ∧ ((A.take k).reverse = [] ∨ (A.take k).reverse.getD 0 0 ≠ 48)) := by
        have h2 := HR.out.2.1
        rw [hU00] at h2
        exact ⟨HR.out.1, by simpa using h2, HR.out.2.2 hU00⟩
      obtain ⟨A1, hA1⟩ : ∃ A1, A1 = A.take k := ⟨_, rfl⟩
      have HA1 : Hid (A1.length = k) := (show _ = _ by rw [hA1]; simp; omega)
      have HC1 : Hid (∀ j, j < k → wr.cell? ⟨w.heap.size, j, none⟩ = some (.int .u8 (A1.getD j 0))) := by
        intro j hj
        rw [hbuf.cell (by omega), hA1, getD_take' hj]
      rw [← hA1] at HDW
      have hBw : w.heap.size < wr.heap.size := hbuf.lt
      clear HR hU00 hA1 hbuf hA HA hrl
      obtain ⟨wb, hwb⟩ : ∃ wb, wb = wr := ⟨_, rfl⟩
      subst hwb
      go_wp2_with (at_make; refine wpList_make_own _ rfl _ _ 22 rfl wb.heap.size 5 i0 (.int .u8 0) 1 Try.underlying22 hi hz0 hz1 _ _ _ (k + 16) rfl rfl (by omega) (by rw [hz2]; omega) (by unfold maxLen; omega) (Nat.le_refl _) ?_)
      intro w1 hown1 hgrow1
      have hbw1 : Below wb.heap.size wb w1 := (Below.refl _ _).grown hgrow1 (Nat.le_refl _) (fun k hk => by cases hk)
      have hO1 : Own wb.heap.size w1 _ [] := Or.inr hown1
      clear hown1 hgrow1
      go_wp2
      go_loopw [7, 8] (fun x i wr => ∃ (m : Nat) (T : List Int), m ≤ k ∧ i = .int .i64 ((m : Int) - 1) ∧ Hid (T = (A1.drop m).reverse) ∧ Own wb.heap.size wr x T ∧ Below wb.heap.size wb wr) (fun _ i _ => (intOf i + 1).toNat)
      case atStart => exact ⟨k, [], Nat.le_refl _, rfl, (show _ = _ by rw [List.drop_of_length_le (by rw [HA1.out]; omega)]; rfl), hO1, hbw1⟩
      case round =>
        obtain ⟨m, T, hm, rfl, HT, hownr, hbr⟩ := hrel
        clear hO1 hbw1
        have hBr : wb.heap.size ≤ wr.heap.size := hbr.size
        have hTl : T.length ≤ 20 := by rw [HT.out]; have := HA1.out; simp; omega
        rcases Nat.eq_zero_or_pos m with hm0 | hm0
        · subst hm0
          have hTe : T = A1.reverse := by rw [HT.out]; rfl
          have HTE : Hid (T = A1.reverse) := hTe
          obtain ⟨x2, c2, hx2, _, _, _⟩ := hownr.shape hBr
          subst hx2
          clear HT hTe
          obtain ⟨w2, hw2⟩ : ∃ w2, w2 = wr := ⟨_, rfl⟩
          subst hw2
          go_wp2
          go_loopw [1, 10] (fun v i wr => ∃ (U : Int) (m : Nat) (A : List Int), m ≤ 16 ∧ v = .int .u64 U ∧ i = .int .i64 ((m : Int) - 1) ∧ 0 ≤ U ∧ U < 10000000000000000 ∧ A.length = 16 ∧ Hid (Digs (A.drop m) ∧ U * 10 ^ (A.drop m).length + num (A.drop m) = frac) ∧ Buf wr w2.heap.size 41 A ∧ Below w2.heap.size w2 wr) (fun _ i _ => (intOf i + 1).toNat)
          case atStart => exact ⟨frac, 16, List.replicate 16 0, Nat.le_refl _, rfl, rfl, hf0, hf1, rfl, ⟨by intro c hc; simp at hc, by simp [num]⟩, heap_alloc_new w2 _, (Below.refl _ _).alloc (Nat.le_refl _) _⟩
          case round =>
            obtain ⟨U2, m2, A2, hm2, rfl, rfl, hU20, hU21, hA2, HR2, hbuf2, hbel2⟩ := hrel
            rcases Nat.eq_zero_or_pos m2 with hz2' | hz2'
            · subst hz2'
              have HAD : Hid (Digs A2 ∧ num A2 = frac ∧ A2.length = 16) := by
                have h1 := HR2.out
                rw [List.drop_zero] at h1
                exact ⟨h1.1, places_all hA2 h1.1 hU20 hf1 h1.2, hA2⟩
              have hown3 := hownr.mono hBr hbel2
              have hbw3 : Below wb.heap.size wb wr := hbr.trans (hbel2.mono hBr)
              clear HR2 hA2 hownr
              go_wp2
              go_loopw [7, 11] (fun x i wr => ∃ (q : Nat) (a : Option Addr) (c : Nat) (V : List Int), q ≤ 16 ∧ i = .int .i64 q ∧ x = .slice a V.length c ∧ Hid (Mix A1.reverse (A2.take q) V) ∧ V.length ≤ 20 + q ∧ Own wb.heap.size wr (.slice a V.length c) V ∧ Buf wr w2.heap.size 41 A2 ∧ Below wb.heap.size wb wr) (fun _ i _ => 16 - (intOf i).toNat)
              case atStart => exact ⟨0, x2, c2, T, Nat.zero_le _, rfl, rfl, (by rw [HTE.out]; exact Mix.start _), by omega, hown3, hbuf2, hbw3⟩
              case round =>
                obtain ⟨q, a, c, V, hq, rfl, rfl, HMX, hVl, hown4, hbuf4, hbw4⟩ := hrel
                clear hown3 hbw3 hbuf2 hbel2
                have hB4 : wb.heap.size ≤ wr.heap.size := hbw4.size
                by_cases hlt : q < 16
                · have hcq := hbuf4.cell (j := q) (by have := HAD.out.2.2; omega)
                  obtain ⟨y, hy⟩ : ∃ y, y = A2.getD q 0 := ⟨_, rfl⟩
                  rw [← hy] at hcq
                  have HTK : Hid (A2.take (q + 1) = A2.take q ++ [y]) := (show _ = _ by rw [hy]; exact (take_snoc_getD (by have := HAD.out.2.2; omega)).symm)
                  obtain ⟨v, hvl⟩ : ∃ v, v = V.length := ⟨_, rfl⟩
                  have HVL : Hid (v = V.length) := hvl
                  clear hy
                  by_cases hsk : V = [] ∧ y = 48
                  · have hv0 : ((V.length : Int) == 0) = true := by simp [hsk.1]
                    have hy' : (y == 48) = true := by simp [hsk.2]
                    have HM2 : Hid (Mix A1.reverse (A2.take (q + 1)) V) := by
                      show Mix _ _ _
                      rw [HTK.out]
                      exact HMX.out.skip hsk.1 hsk.2
                    clear hsk hvl
                    go_wp2
                    go_roundw
                    case rel => exact ⟨q + 1, a, c, V, by omega, by go_num, rfl, HM2, by omega, hown4, hbuf4, hbw4⟩
                    case measure => simp [intOf]; omega
                  · have HM2 : Hid (Mix A1.reverse (A2.take (q + 1)) (V ++ [y])) := by
                      show Mix _ _ _
                      rw [HTK.out]
                      exact HMX.out.push hsk
                    have hst : ((V.length : Int) == 0) = false ∨ (((V.length : Int) == 0) = true ∧ (y == 48) = false) := by
                      by_cases hV : V = []
                      · right
                        exact ⟨by simp [hV], by simp; intro h; exact hsk ⟨hV, h⟩⟩
                      · left
                        simp
                        exact hV
                    clear hsk hvl
                    have hne := hown4.ne_buf hbuf4 hBr
                    have hflt := hbuf4.lt
                    rcases hst with st | ⟨st1, st2⟩
                    all_goals
                      go_wp2_with (at_builtin; refine wpList_append_Own _ rfl (.tmp 64) (.tmp 68) rfl wb.heap.size (by simp; omega) _ V rfl (hown4.mono hB4 ((Below.refl _ _).alloc (Nat.le_refl _) _)) ⟨wr.heap.size, 0, none⟩ 1 1 [y] rfl rfl (by omega) (one_new _ _ _) (by omega) ?_)
                      intro v5 w5 hown5 hbel5 hgr5
                      have hbw5 : Below wb.heap.size wb w5 := (hbw4.alloc hB4 _).trans hbel5
                      have hbuf5 : Buf w5 w2.heap.size 41 A2 := (hbuf4.keep (Below.heap_alloc _ _ _ hflt)).keep (hgr5.block _ (by simp; omega) hne)
                      obtain ⟨a5, c5, hv5, _, _, _⟩ := hown5.shape hbw5.size
                      have HV5 : Hid (v5 = .slice a5 (V ++ [y]).length c5) := hv5
                      clear hv5
                      go_wp2
                      go_roundw
                      case rel => (repeat apply Exists.intro); exact ⟨⟨q + 1, a5, c5, V ++ [y], by omega, by go_num, HV5.out, HM2, by simp; omega, by rw [← HV5.out]; exact hown5, hbuf5, hbw5⟩, rfl⟩
                      case measure => simp [intOf]; omega
                · have hq16 : q = 16 := by omega
                  subst hq16
                  go_wp2
                  go_ret
                  obtain ⟨_, hc, hrow⟩ := hown4.row hB4
                  have hmx := HMX.out
                  rw [List.take_of_length_le (by rw [HAD.out.2.2]; omega)] at hmx
                  refine ⟨a, c, V, rfl, hc, hrow, ⟨A1.reverse, A2, HAD.out.1, HAD.out.2.2, HAD.out.2.1, HDW.out.1, HDW.out.2.1, by have := HA1.out; simp; omega, HDW.out.2.2, hmx⟩, hbel.trans (hbw4.mono (by omega))⟩
            · obtain ⟨J, rfl⟩ : ∃ J, m2 = J + 1 := ⟨m2 - 1, by omega⟩
              have HR3 : Hid _ := digit_round (by omega) HR2.out
              have hb3 := hbuf2.set J (48 + U2 % 10)
              have hcell := hbuf2.cell (j := J) (by omega)
              have hfree := hbuf2.free J
              have hbel3 := hbel2.setCell (p := ⟨w2.heap.size, J, none⟩) (Nat.le_refl _) (.int .u8 (48 + U2 % 10))
              obtain ⟨x, hx⟩ : ∃ x, x = A2.getD J 0 := ⟨_, rfl⟩
              rw [← hx] at hcell
              have HA2 : Hid (A2.length = 16) := hA2
              have hJI : ((J + 1 : Nat) : Int) - 1 = (J : Int) := by omega
              simp only [hJI]
              clear hx HR2 hbuf2 hbel2 hA2 hJI
              go_wp2
              go_roundw
              case rel => exact ⟨U2 / 10, J, A2.set J (48 + U2 % 10), by omega, rfl, rfl, by omega, by omega, by simp [HA2.out], HR3, hb3, hbel3⟩
              case measure => simp [intOf] <;> omega
        · obtain ⟨m', rfl⟩ : ∃ m', m = m' + 1 := ⟨m - 1, by omega⟩
          have hcm := (hbr.cell (p := ⟨w.heap.size, m', none⟩) hBw).trans (HC1.out m' (by omega))
          obtain ⟨y, hy⟩ : ∃ y, y = A1.getD m' 0 := ⟨_, rfl⟩
          rw [← hy] at hcm
          have HST : Hid (T ++ [y] = (A1.drop m').reverse) := (show _ = _ by rw [HT.out, hy]; exact (rev_drop (by have := HA1.out; omega)).symm)
          have hmI : ((m' + 1 : Nat) : Int) - 1 = (m' : Int) := by omega
          simp only [hmI]
          clear hy hmI
          go_wp2_with (at_builtin; refine wpList_append_Own _ rfl (.tmp 33) (.tmp 37) rfl wb.heap.size (by simp; omega) _ T rfl (hownr.mono hBr ((Below.refl _ _).alloc (Nat.le_refl _) _)) ⟨wr.heap.size, 0, none⟩ 1 1 [y] rfl rfl (by omega) (one_new _ _ _) (by omega) ?_)
          intro v2 w2 hown2 hbel2 _
          have hbw2 : Below wb.heap.size wb w2 := (hbr.alloc hBr _).trans hbel2
          go_wp2
          go_roundw
          case rel => exact ⟨m', T ++ [y], by omega, rfl, HST, hown2, hbw2⟩
          case measure => simp [intOf] <;> omega
end Go.Proofs.Qxb6602909a
