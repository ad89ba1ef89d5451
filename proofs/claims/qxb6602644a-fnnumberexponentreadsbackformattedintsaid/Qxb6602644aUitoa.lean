import Derived.Test.Qxb6602644aRows
import Derived.Test.Qxb6602644aNum
import Derived.WalkKit
import Derived.WalkSpells
import Derived.WalkLawsBesides
import Derived.Laws.CopyOwn
namespace Go.Proofs.Qxb6602644a
open Go.RowKit

theorem Try.info5u : (Try.prog.info? 5).map (fun i => (i.zero, i.size, i.bytes)) = some (some (.int .u8 0), 1, 1) := by kernel_rfl

/-- The row of twenty bytes behind k stores from its end. -/
def Buf (wr : World) (B : Nat) (A : List Int) : Prop := wr.heap[B]? = some (.cells (A.map (Value.int .u8)).toArray 38 (0, 0))

theorem Buf.cell {wr : World} {B : Nat} {A : List Int} (h : Buf wr B A) {j : Nat} (hj : j < A.length) : wr.cell? ⟨B, j, none⟩ = some (.int .u8 (A.getD j 0)) := by
  rw [cell_of_row wr B j _ 38 (0, 0) h]
  simp [hj]
theorem Buf.free {wr : World} {B : Nat} {A : List Int} (h : Buf wr B A) (j : Nat) : wr.frozen? ⟨B, j, none⟩ = false := frozen_of_row wr B j _ 38 h
theorem Buf.set {wr : World} {B : Nat} {A : List Int} (h : Buf wr B A) (j : Nat) (c : Int) : Buf (wr.setCell ⟨B, j, none⟩ (.int .u8 c)) B (A.set j c) := by
  unfold Buf
  rw [heap_setCell_same wr B j _ 38 _ h]
  simp

theorem own_block {w1 : World} {base n g : Nat} {e : TypeId} {xs : List Value} (h : w1.ownsRow base e 1 (.slice (some ⟨g, 0, none⟩) n n) n xs) : w1.heap[g]? = some (.cells xs.toArray e (0, 0)) := by
  rcases h.2 with ⟨h1, _⟩ | ⟨g', cap, cur, h1, _, hh, _, _, hs, ht⟩
  · cases h1
  · simp at h1
    obtain ⟨rfl, rfl⟩ := h1
    rw [hh, ← ht, List.take_of_length_le (by simp [hs])]

theorem Try.arrayLen38 : Try.prog.arrayLen 38 = 20 := by kernel_rfl
theorem Try.elem38 : Try.prog.elem 38 = 5 := by kernel_rfl
theorem slice_buf (W : World) (b J : Nat) (hJ : J < 20) :
    (Instr.sliceAt 38 (.pointer (some ⟨b, 0, none⟩)) (some (.int .i64 (J : Int))) none none).run Try.prog W = .ok (.slice (some ⟨b, J, none⟩) (20 - J) (20 - J)) W := by
  obtain ⟨i0, hi, hz0, hz1, hz2⟩ := info_parts Try.info5u
  have h := run_sliceAt_array_l (P := Try.prog) W 38 ⟨b, 0, none⟩ (by rw [Try.arrayLen38, Try.elem38]; exact Try.underlying38) .i64 (J : Int) (by omega) (by rw [Try.arrayLen38]; omega)
  rw [h, Try.elem38, Try.arrayLen38]
  simp [sizeOf, typeInfo, slicedAt, hi, hz1, Result.andThen, Addr.add_lit, show ¬ 20 = J by omega]

theorem drop_set_self (A : List Int) (J : Nat) (c : Int) (h : J < A.length) : (A.set J c).drop J = c :: A.drop (J + 1) := by
  rw [List.drop_eq_getElem_cons (by simpa using h)]
  simp [List.drop_set_of_lt]

theorem uitoa_round {u U : Int} {A : List Int} {J : Nat} (hJ : J < A.length) (h : Digs (A.drop (J + 1)) ∧ U * 10 ^ (A.drop (J + 1)).length + num (A.drop (J + 1)) = u) :
    Digs ((A.set J (48 + U % 10)).drop J) ∧ (U / 10) * 10 ^ ((A.set J (48 + U % 10)).drop J).length + num ((A.set J (48 + U % 10)).drop J) = u := by
  rw [drop_set_self A J _ hJ]
  exact uitoa_step u U _ h.1 h.2

set_option maxHeartbeats 1000000 in
theorem uitoa_any (u : Int) (w : World) (hu0 : 0 ≤ u) (hu1 : u < 18446744073709551616) :
    Calls Try.prog 17 #[.int .u64 u] w fun e w' => ∃ (g : Nat) (ds : List Int), e = .returned (.slice (some ⟨g, 0, none⟩) ds.length ds.length) ∧ Digs ds ∧ num ds = u ∧ 1 ≤ ds.length ∧ ds.length ≤ 20 ∧ g < w'.heap.size ∧
      (∀ j, j < ds.length → w'.cell? ⟨g, j, none⟩ = some (.int .u8 (ds.getD j 0))) ∧ Below w.heap.size w w' := by
  obtain ⟨i0, hi, hz0, hz1, hz2⟩ := info_parts Try.info5u
  go_enter Try.func17, Try.ntmps17
  go_wp2
  go_loopw [0, 4] (fun v i wr => ∃ (U : Int) (I : Nat) (A : List Int), I ≤ 20 ∧ v = .int .u64 U ∧ i = .int .i64 I ∧ 0 ≤ U ∧ U < 18446744073709551616 ∧ A.length = 20 ∧ (1 ≤ U ∨ I = 20) ∧ Hid (Digs (A.drop I) ∧ U * 10 ^ (A.drop I).length + num (A.drop I) = u) ∧ Buf wr w.heap.size A ∧ Below w.heap.size w wr) (fun _ i _ => (intOf i).toNat)
  case atStart => exact ⟨u, 20, List.replicate 20 0, Nat.le_refl _, rfl, rfl, hu0, hu1, rfl, Or.inr rfl, ⟨by intro c hc; simp at hc, by simp [num]⟩, heap_alloc_new w _, (Below.refl _ _).alloc (Nat.le_refl _) _⟩
  case round =>
    obtain ⟨U, I, A, hI, rfl, rfl, hU0, hU1, hA, hpos, HR, hbuf, hbel⟩ := hrel
    have hI1 : 1 ≤ I := by
      rcases hpos with h | h
      · have := uitoa_room u U (A.drop I) h HR.out.1 HR.out.2 hu1 (by simp; omega)
        simp [hA] at this
        omega
      · omega
    obtain ⟨J, rfl⟩ : ∃ J, I = J + 1 := ⟨I - 1, by omega⟩
    have HR2 : Hid _ := uitoa_round (by omega) HR.out
    have hb2 := hbuf.set J (48 + U % 10)
    have hcell := hbuf.cell (j := J) (by omega)
    have hfree := hbuf.free J
    have hbel2 := hbel.setCell (p := ⟨w.heap.size, J, none⟩) (Nat.le_refl _) (.int .u8 (48 + U % 10))
    obtain ⟨x, hx⟩ : ∃ x, x = A.getD J 0 := ⟨_, rfl⟩
    rw [← hx] at hcell
    have HA : Hid (A.length = 20) := hA
    clear hx HR hpos hbuf hbel hA
    by_cases hq : U / 10 = 0
    · have hq' : (U / 10 == 0) = true := by simp [hq]
      clear hq
      go_wp2_with (at_make; refine wpList_make_full _ rfl _ _ 25 rfl w.heap.size 5 i0 (.int .u8 0) 1 Try.underlying25 hi hz0 hz1 _ _ _ _ (20 - J) rfl rfl (by omega) (by omega) ?b2 ?b3 ?b4 ?_)
      case b2 => rw [hz2]; omega
      case b3 => unfold maxLen; omega
      case b4 => exact hbel2.size
      intro w1 hown hgrow
      have hblk := own_block hown
      have hbuf1 : Buf w1 w.heap.size (A.set J (48 + U % 10)) := (hgrow.block w.heap.size (lt_of_block hb2) (by simp)).trans hb2
      have hbel1 := hbel2.grown hgrow hbel2.size (fun k hk => by cases hk)
      obtain ⟨A1, hA1⟩ : ∃ A1, A1 = A.set J (48 + U % 10) := ⟨_, rfl⟩
      have hA1l : A1.length = 20 := by rw [hA1]; simp [HA.out]
      rw [← hA1] at hbuf1 HR2
      have HA1 : Hid (A1.length = 20) := hA1l
      obtain ⟨cs, hcs⟩ : ∃ cs, cs = (A1.drop J).map (Value.int .u8) := ⟨_, rfl⟩
      have hcl : cs.length = 20 - J := by rw [hcs]; simp [hA1l]
      obtain ⟨cur, hcur⟩ : ∃ cur, cur = (madeCells #[Value.int IntKind.u8 0] (20 - J)).toList := ⟨_, rfl⟩
      have hcurl : cur.length = 20 - J := by rw [hcur]; have := hown.1; simpa using this
      rw [← hcur] at hblk
      have HCS : Hid (cs = (A1.drop J).map (Value.int .u8) ∧ cs.length = 20 - J ∧ cur.length = 20 - J) := ⟨hcs, hcl, hcurl⟩
      have HBLK : Hid (w1.heap[wr.heap.size]? = some (.cells cur.toArray 5 (0, 0))) := hblk
      have hsz : wr.heap.size < w1.heap.size := lt_of_block hblk
      have hsz0 : w.heap.size ≤ wr.heap.size := by have := hbel2.size; simpa using this
      have hsl := fun W => slice_buf W w.heap.size J (by omega)
      clear hA1 hcs hcl hcur hown hgrow hb2 hbel2 hcell hfree hblk hcurl hA1l HA
      go_wp2_with (refine wpList_copy_splice rfl (.tmp 21) (.tmp 23) 25 25 rfl 5 Try.underlying25 (by rw [hi]; simp [hz1]) _ _ _ _ _ _ rfl rfl wr.heap.size 0 cur 5 HBLK.out cs ?hn ?hpos ?hfit ?hone w.heap.size w hbel1 hsz0 ?_)
      case hn => rw [HCS.out.2.1]; simp
      case hpos =>
        intro _ j v hv
        rw [HCS.out.1] at hv
        simp at hv
        obtain ⟨c, hc, rfl⟩ := hv
        have hjl : J + j < A1.length := (List.getElem?_eq_some_iff.1 hc).1
        rw [hbuf1.cell hjl]
        simp [hc]
      case hfit => have := HCS.out; omega
      case hone =>
        intro v hv
        rw [HCS.out.1] at hv
        exact ints_oneCell _ _ v hv
      intro w2 HG2 hB2
      go_wp2
      go_ret
      have hds : (A1.drop J).length = 20 - J := by simp [HA1.out]
      have hsp : splice cur 0 cs = cs := by simp [splice, HCS.out.2.1, HCS.out.2.2]
      have hg2 := HG2.out
      rw [hsp, HCS.out.1] at hg2
      refine ⟨wr.heap.size, A1.drop J, by rw [hds]; rfl, HR2.out.1, ?_, by omega, by omega, lt_of_block hg2, ?_, hB2⟩
      · have := HR2.out.2
        have hq : U / 10 = 0 := by simpa using hq'
        rw [hq] at this
        simpa using this
      · intro j hj
        rw [cell_of_row w2 wr.heap.size j _ 5 (0, 0) hg2]
        simp at hj
        simp [hj]
    · have hq' : (U / 10 == 0) = false := by simp [hq]
      go_wp2
      go_roundw
      case rel => exact ⟨U / 10, J, A.set J (48 + U % 10), by omega, rfl, by go_num, by omega, by omega, by simp [HA.out], Or.inl (by omega), HR2, hb2, hbel2⟩
      case measure => simp [intOf] <;> omega
end Go.Proofs.Qxb6602644a
