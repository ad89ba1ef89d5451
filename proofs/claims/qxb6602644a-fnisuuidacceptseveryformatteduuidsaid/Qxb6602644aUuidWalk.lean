import Derived.Test.Qxb6602644aUuid
import Derived.Laws.BytesArg
namespace Go.Proofs.Qxb6602644a
open Go.RowKit

theorem Try.info5 : (Try.prog.info? 5).map (fun i => (i.zero, i.size, i.bytes)) = some (some (.int .u8 0), 1, 1) := by kernel_rfl

/-- How long the text is behind k of the sixteen bytes. -/
def LN (k : Nat) : Nat := 2 * k + (if 4 < k then 1 else 0) + (if 6 < k then 1 else 0) + (if 8 < k then 1 else 0) + (if 10 < k then 1 else 0)
/-- The text behind k bytes: its length; what stands at each place. -/
def GoodRow (L : List Int) (k : Nat) : Prop := L.length = LN k ∧ ∀ j c, L[j]? = some c → Good j c

theorem good_snoc {L : List Int} (h : ∀ j c, L[j]? = some c → Good j c) {c : Int} (hc : Good L.length c) : ∀ j d, (L ++ [c])[j]? = some d → Good j d := by
  intro j d hd
  rcases Nat.lt_trichotomy j L.length with hj | hj | hj
  · rw [List.getElem?_append_left hj] at hd
    exact h j d hd
  · subst hj
    simp at hd
    subst hd
    exact hc
  · rw [List.getElem?_eq_none (by simp; omega)] at hd
    cases hd

theorem good_hex {i : Nat} {c : Int} (hi : i ≠ 8 ∧ i ≠ 13 ∧ i ≠ 18 ∧ i ≠ 23) (hc : HexD c) : Good i c := Or.inr ⟨hi, hc⟩
theorem good_dash {i : Nat} (hi : i = 8 ∨ i = 13 ∨ i = 18 ∨ i = 23) : Good i 45 := Or.inl ⟨hi, rfl⟩

theorem LN_plain (k : Nat) (hk : k < 16) (h : ¬ k = 4 ∧ ¬ k = 6 ∧ ¬ k = 8 ∧ ¬ k = 10) :
    LN (k + 1) = LN k + 2 ∧ LN k + 2 ≤ 36 ∧ (LN k ≠ 8 ∧ LN k ≠ 13 ∧ LN k ≠ 18 ∧ LN k ≠ 23) ∧ (LN k + 1 ≠ 8 ∧ LN k + 1 ≠ 13 ∧ LN k + 1 ≠ 18 ∧ LN k + 1 ≠ 23) := by
  unfold LN
  repeat' split
  all_goals omega
theorem LN_dash (k : Nat) (h : k = 4 ∨ k = 6 ∨ k = 8 ∨ k = 10) :
    LN (k + 1) = LN k + 3 ∧ LN k + 3 ≤ 36 ∧ (LN k = 8 ∨ LN k = 13 ∨ LN k = 18 ∨ LN k = 23) := by
  rcases h with rfl | rfl | rfl | rfl <;> decide

theorem goodRow_plain {L : List Int} {k : Nat} {c d : Int} (hk : k < 16) (h : ¬ k = 4 ∧ ¬ k = 6 ∧ ¬ k = 8 ∧ ¬ k = 10) (hL : GoodRow L k) (hc : HexD c) (hd : HexD d) : GoodRow (L ++ [c] ++ [d]) (k + 1) := by
  obtain ⟨h1, h2, h3, h4⟩ := LN_plain k hk h
  refine ⟨by simp [hL.1, h1], good_snoc (good_snoc hL.2 (good_hex ?_ hc)) (good_hex ?_ hd)⟩
  · rw [hL.1]; exact h3
  · simp only [List.length_append, List.length_cons, List.length_nil, hL.1]; exact h4
theorem goodRow_dash {L : List Int} {k : Nat} {c d : Int} (h : k = 4 ∨ k = 6 ∨ k = 8 ∨ k = 10) (hL : GoodRow L k) (hc : HexD c) (hd : HexD d) : GoodRow (L ++ [45] ++ [c] ++ [d]) (k + 1) := by
  obtain ⟨h1, h2, h3⟩ := LN_dash k h
  refine ⟨by simp [hL.1, h1], good_snoc (good_snoc (good_snoc hL.2 (good_dash ?_)) (good_hex ?_ hc)) (good_hex ?_ hd)⟩
  · rw [hL.1]; exact h3
  · simp only [List.length_append, List.length_cons, List.length_nil, hL.1]; omega
  · simp only [List.length_append, List.length_cons, List.length_nil, hL.1]; omega

/-- One more byte in a row of the call's own, within its room. -/
theorem own_snoc {w0 wr w1 : World} {B g cap : Nat} {L : List Int} {c : Int} {o : Obj} (hb : Below B w0 wr) (hB : B ≤ w0.heap.size) (hg : B ≤ g)
    (hown : w1.ownsRow B 5 1 (.slice (some ⟨g, 0, none⟩) (L.length + 1) cap) (L.length + 1) (L.map (Value.int .u8) ++ [.int .u8 c])) (hgrow : (wr.alloc o).grownBy w1 (some g)) :
    w1.ownsRow B 5 1 (.slice (some ⟨g, 0, none⟩) (L ++ [c]).length cap) (L ++ [c]).length ((L ++ [c]).map (Value.int .u8)) ∧ Below B w0 w1 := by
  have hs := hb.size
  refine ⟨by simpa using hown, (hb.alloc (by omega) o).grown hgrow (by simp; omega) (fun k hk => ?_)⟩
  cases hk
  exact hg

/-- A text that is good at every place, as a string. -/
theorem goodRow_string {L : List Int} (hL : GoodRow L 16) : (strOfNums L).size = 36 ∧ ∀ k, (h : k < (strOfNums L).size) → Good k ((strOfNums L)[k].toNat : Int) := by
  refine ⟨by rw [strOfNums_size, hL.1]; rfl, fun k h => ?_⟩
  rw [strOfNums_size] at h
  have hg := hL.2 k L[k] (by simp [h])
  have e : (strOfNums L)[k] = UInt8.ofNat L[k].toNat := by
    show (strOfNums L).data[k] = _
    simp [strOfNums]
  rw [e]
  have hr : 0 ≤ L[k] ∧ L[k] < 256 := by
    rcases hg with ⟨_, h1⟩ | ⟨_, h1⟩
    · omega
    · unfold HexD at h1; omega
  have e2 : ((UInt8.ofNat L[k].toNat).toNat : Int) = L[k] := by
    rw [UInt8.toNat_ofNat']
    omega
  rw [e2]
  exact hg

set_option maxHeartbeats 1000000 in
theorem uuid_walk (z : Array Value) (u : Int) (zs : List Int) (w : World) (hz : z = (zs.map (Value.int .u8)).toArray) (hl : zs.length = 16) (hzb : ∀ j, 0 ≤ zs.getD j 0 ∧ zs.getD j 0 ≤ 255) (_hu : 0 ≤ u ∧ u < 4294967296) :
    Calls Try.prog 4 #[.agg z, .int .u32 u] w fun e w' => e = .returned (.bool true) ∧ Below w.heap.size w w' := by
  obtain ⟨i0, hi, hz0, hz1, hz2⟩ := info_parts Try.info5
  go_enter Try.func4, Try.ntmps4
  go_wp2_with (at_make; refine wpList_make_own _ rfl _ _ 25 rfl (w.heap.size + 1) 5 i0 (.int .u8 0) 1 Try.underlying25 hi hz0 hz1 _ _ _ 36 rfl rfl (by omega) ?b2 ?b3 ?b4 ?_)
  case b2 => rw [hz2]; omega
  case b3 => unfold maxLen; omega
  case b4 => simp
  intro w1 hown hgrow
  have hb1 : Below (w.heap.size + 1) (w.alloc (Obj.cells (List.map (Value.int IntKind.u8) zs).toArray 23)) w1 := (Below.refl _ _).grown hgrow (by simp) (fun k hk => by cases hk)
  have hcells : ∀ j, j < 16 → (w.alloc (Obj.cells (List.map (Value.int IntKind.u8) zs).toArray 23)).cell? ⟨w.heap.size, j, none⟩ = some (.int .u8 (zs.getD j 0)) := by
    intro j hj
    rw [World.cell?_alloc_at _ _ _ _ rfl]
    simp [hj, hl]
  go_wp2
  go_loopw [5, 6, 7] (fun v d i wr => ∃ k : Nat, k ≤ 16 ∧ i = .int .i64 k ∧ d = .int .u64 (2 * k) ∧ ∃ L : List Int, GoodRow L k ∧ v = .slice (some ⟨w.heap.size + 1, 0, none⟩) L.length 36 ∧ wr.ownsRow (w.heap.size + 1) 5 1 (.slice (some ⟨w.heap.size + 1, 0, none⟩) L.length 36) L.length (L.map (Value.int .u8)) ∧ Below (w.heap.size + 1) (w.alloc (Obj.cells (List.map (Value.int IntKind.u8) zs).toArray 23)) wr) (fun _ _ i _ => 16 - (intOf i).toNat)
  case atStart => exact ⟨0, Nat.zero_le _, rfl, rfl, [], ⟨rfl, fun j c h => by simp at h⟩, rfl, hown, hb1⟩
  case round =>
    obtain ⟨k, hk, rfl, rfl, L, hL, rfl, hownr, hbr⟩ := hrel
    by_cases hlt : k < 16
    · obtain ⟨x, hx⟩ : ∃ x, x = zs.getD k 0 := ⟨_, rfl⟩
      have hcell : wr.cell? ⟨w.heap.size, k, none⟩ = some (.int .u8 x) := by rw [hx]; exact (hbr.cell (by simp)).trans (hcells k hlt)
      have hzk : 0 ≤ x ∧ x ≤ 255 := by rw [hx]; exact hzb k
      obtain ⟨hx0, hx1⟩ := hzk
      have hsz := hbr.size
      simp only [World.size_alloc] at hsz
      clear hcells hb1 hown hgrow hx hzb hl
      by_cases hd : k = 4 ∨ k = 6 ∨ k = 8 ∨ k = 10
      · have hLL := LN_dash k hd
        have hL36 : L.length + 3 ≤ 36 := by rw [hL.1]; omega
        rcases hd with rfl | rfl | rfl | rfl
        all_goals
          go_wp2_with (at_builtin; refine wpList_append_fits _ rfl (.tmp 29) (.tmp 30) 25 rfl (w.heap.size + 1) 5 i0 1 Try.underlying25 hi hz1 (w.heap.size + 1) L.length 36 (L.map (Value.int .u8)) rfl (hownr.alloc _) ⟨wr.heap.size, 0, none⟩ 1 1 [.int .u8 45] rfl rfl (cell_one_new _ _ _) (by simp [Value.oneCell']) (by omega) ?_)
          intro w3 hown3 hgrow3
          have S3 := own_snoc hbr (by simp) (Nat.le_refl _) hown3 hgrow3
          clear hown3 hgrow3
          have hx3 : wr.cell? ⟨w.heap.size, _, none⟩ = some (.int .u8 x) := hcell
          have hcell3 := (S3.2.cell (by simp)).trans ((hbr.cell (by simp)).symm.trans hx3)
          obtain ⟨L3, hL3⟩ : ∃ L3, L3 = L ++ [45] := ⟨_, rfl⟩
          have hn3 : L.length + 1 = L3.length := by rw [hL3]; simp
          rw [← hL3] at S3
          have HL3 : Hid (L3 = L ++ [45]) := hL3
          clear hx3 hL3
          go_wp2_with fail
          refine (hexDigit_any _ _ _ (by omega) (by omega)).mono ?_
          rintro e w' ⟨c1, rfl, hc1, rfl⟩
          go_wp2_with (at_builtin; refine wpList_append_fits _ rfl (.tmp 40) (.tmp 48) 25 rfl (w.heap.size + 1) 5 i0 1 Try.underlying25 hi hz1 (w.heap.size + 1) L3.length 36 (L3.map (Value.int .u8)) rfl (S3.1.alloc _) ⟨w3.heap.size, 0, none⟩ 1 1 [.int .u8 c1] rfl rfl (cell_one_new _ _ _) (by simp [Value.oneCell']) (by omega) ?_)
          intro w4 hown4 hgrow4
          have S4 := own_snoc S3.2 (by simp) (Nat.le_refl _) hown4 hgrow4
          clear hown4 hgrow4
          obtain ⟨L4, hL4⟩ : ∃ L4, L4 = L3 ++ [c1] := ⟨_, rfl⟩
          have hn4 : L4.length = L3.length + 1 := by rw [hL4]; simp
          rw [← hL4] at S4
          have hn4' : L3.length + 1 = L4.length := hn4.symm
          have HL4 : Hid (L4 = L3 ++ [c1]) := hL4
          clear hL4
          clear hn4
          go_wp2_with fail
          refine (hexDigit_any _ _ _ (by omega) (by omega)).mono ?_
          rintro e w' ⟨c2, rfl, hc2, rfl⟩
          go_wp2_with (at_builtin; refine wpList_append_fits _ rfl (.tmp 52) (.tmp 60) 25 rfl (w.heap.size + 1) 5 i0 1 Try.underlying25 hi hz1 (w.heap.size + 1) L4.length 36 (L4.map (Value.int .u8)) rfl (S4.1.alloc _) ⟨w4.heap.size, 0, none⟩ 1 1 [.int .u8 c2] rfl rfl (cell_one_new _ _ _) (by simp [Value.oneCell']) (by omega) ?_)
          intro w5 hown5 hgrow5
          have S5 := own_snoc S4.2 (by simp) (Nat.le_refl _) hown5 hgrow5
          clear hown5 hgrow5
          have hG := goodRow_dash (by decide) hL hc1 hc2
          rw [← HL3.out, ← HL4.out] at hG
          go_wp2
          go_roundw
          case rel => exact ⟨_, by decide, by go_num, by go_num, L4 ++ [c2], hG, by simp, S5.1, S5.2⟩
          case measure => simp [intOf] <;> omega
      · have hnd : ¬ k = 4 ∧ ¬ k = 6 ∧ ¬ k = 8 ∧ ¬ k = 10 := by omega
        have hLL := LN_plain k hlt hnd
        have hL36 : L.length + 2 ≤ 36 := by rw [hL.1]; omega
        have e4 : ((k : Int) == 4) = false := by simp; omega
        have e6 : ((k : Int) == 6) = false := by simp; omega
        have e8 : ((k : Int) == 8) = false := by simp; omega
        have e10 : ((k : Int) == 10) = false := by simp; omega
        go_wp2_with fail
        refine (hexDigit_any _ _ _ (by omega) (by omega)).mono ?_
        rintro e w' ⟨c1, rfl, hc1, rfl⟩
        go_wp2_with (at_builtin; refine wpList_append_fits _ rfl (.tmp 40) (.tmp 48) 25 rfl (w.heap.size + 1) 5 i0 1 Try.underlying25 hi hz1 (w.heap.size + 1) L.length 36 (L.map (Value.int .u8)) rfl (hownr.alloc _) ⟨wr.heap.size, 0, none⟩ 1 1 [.int .u8 c1] rfl rfl (cell_one_new _ _ _) (by simp [Value.oneCell']) (by omega) ?_)
        intro w4 hown4 hgrow4
        have S4 := own_snoc hbr (by simp) (Nat.le_refl _) hown4 hgrow4
        clear hown4 hgrow4
        obtain ⟨L4, hL4⟩ : ∃ L4, L4 = L ++ [c1] := ⟨_, rfl⟩
        have hn4 : L4.length = L.length + 1 := by rw [hL4]; simp
        rw [← hL4] at S4
        have hn4' : L.length + 1 = L4.length := hn4.symm
        have HL4 : Hid (L4 = L ++ [c1]) := hL4
        clear hL4
        clear hn4
        go_wp2_with fail
        refine (hexDigit_any _ _ _ (by omega) (by omega)).mono ?_
        rintro e w' ⟨c2, rfl, hc2, rfl⟩
        go_wp2_with (at_builtin; refine wpList_append_fits _ rfl (.tmp 52) (.tmp 60) 25 rfl (w.heap.size + 1) 5 i0 1 Try.underlying25 hi hz1 (w.heap.size + 1) L4.length 36 (L4.map (Value.int .u8)) rfl (S4.1.alloc _) ⟨w4.heap.size, 0, none⟩ 1 1 [.int .u8 c2] rfl rfl (cell_one_new _ _ _) (by simp [Value.oneCell']) (by omega) ?_)
        intro w5 hown5 hgrow5
        have S5 := own_snoc S4.2 (by simp) (Nat.le_refl _) hown5 hgrow5
        clear hown5 hgrow5
        have hG : GoodRow (L4 ++ [c2]) (k + 1) := by rw [HL4.out]; exact goodRow_plain hlt hnd hL hc1 hc2
        go_wp2
        go_roundw
        case rel => exact ⟨k + 1, by omega, by go_num, by go_num, L4 ++ [c2], hG, by simp, S5.1, S5.2⟩
        case measure => simp [intOf] <;> omega
    · have hk16 : k = 16 := by omega
      subst hk16
      have hL36 : L.length = 36 := hL.1
      have hcl : ∀ i, i < 36 → wr.cell? ⟨w.heap.size + 1, 0 + i, none⟩ = some (.int .u8 (L.getD i 0)) := by
        intro i hi'
        have := hownr.cells (g := w.heap.size + 1) rfl i (.int .u8 (L.getD i 0)) (by simp [hL36, hi'])
        rw [Nat.zero_add, ← this, Addr.add_lit, Nat.zero_add]
      have hconv := run_convert_bytes_arg (P := Try.prog) wr 25 5 Try.underlying25 Try.underlying5 (w.heap.size + 1) 0 36 36 L hL36 hcl 9 Try.underlying9
      have hstr := goodRow_string hL
      have HC := ZZisUUID_good (strOfNums L) wr hstr.1 hstr.2
      have hle : (L.length : Int) = 36 := by omega
      clear hcl hcells hb1 hown hgrow hstr
      go_wp2_with (go_at_call 9; refine HC.mono ?_; rintro e w' ⟨rfl, rfl⟩)
      go_ret
      exact ⟨rfl, ((Below.refl _ _).alloc (Nat.le_refl _) _).trans (hbr.mono (by omega))⟩
end Go.Proofs.Qxb6602644a
