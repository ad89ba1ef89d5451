/-
  WHAT THE WALKS OF THIS SEAT SHARE: a slice of strings that is read ('SRow'); a slice of strings of the call's own, and the law of append for it, the old row kept.
-/
import Derived.Test.Qxb6002792aRows
import Derived.WalkKit
import Derived.WalkSpells
import Derived.WalkLawsBesides
import Derived.BigQuiet
import Derived.Lib.SliceRun
namespace Go.Proofs.Qxb6002792a
open Go.RowKit

theorem Try.info9 : (Try.prog.info? 9).map (fun i => (i.zero, i.size, i.bytes)) = some (some (.string ByteArray.empty), 1, 16) := by kernel_rfl

abbrev eS : ByteArray := ByteArray.empty

/-- The address leads to the strings L (of an empty slice's address nothing is known). -/
def SRow (w : World) (a : Option Addr) (L : List ByteArray) : Prop :=
  L = [] ∨ ∃ b off, a = some ⟨b, off, none⟩ ∧ b < w.heap.size ∧ ∀ j, j < L.length → w.cell? ⟨b, off + j, none⟩ = some (.string (L.getD j eS))

theorem SRow.mono {w w' : World} {a : Option Addr} {L : List ByteArray} (h : SRow w a L) (hb : Below w.heap.size w w') : SRow w' a L := by
  rcases h with h | ⟨b, off, ha, hlt, hc⟩
  · exact Or.inl h
  · exact Or.inr ⟨b, off, ha, Nat.lt_of_lt_of_le hlt hb.size, fun j hj => (hb.cell (p := ⟨b, off + j, none⟩) hlt).trans (hc j hj)⟩

theorem SRow.at {w : World} {a : Option Addr} {L : List ByteArray} (h : SRow w a L) (hl : 0 < L.length) : ∃ b off, a = some ⟨b, off, none⟩ ∧ b < w.heap.size ∧ ∀ j, j < L.length → w.cell? ⟨b, off + j, none⟩ = some (.string (L.getD j eS)) := by
  rcases h with h | h
  · simp [h] at hl
  · exact h

/-- A slice of the call's own from block B on: its row begins at block g. -/
def SOwn (B : Nat) (w : World) (g cap : Nat) (L : List ByteArray) : Prop := w.ownsRow B 9 1 (.slice (some ⟨g, 0, none⟩) L.length cap) L.length (L.map Value.string)

theorem SOwn.cell {B : Nat} {w : World} {g cap : Nat} {L : List ByteArray} (h : SOwn B w g cap L) {j : Nat} (hj : j < L.length) : w.cell? ⟨g, j, none⟩ = some (.string (L.getD j eS)) := by
  have := World.ownsRow.cells h (g := g) rfl j (.string (L.getD j eS)) (by simp [hj])
  rw [Addr.add_lit, Nat.zero_add] at this
  exact this
theorem SOwn.le {B : Nat} {w : World} {g cap : Nat} {L : List ByteArray} (h : SOwn B w g cap L) : L.length ≤ cap ∧ B ≤ g ∧ g < w.heap.size := by
  obtain ⟨h1, h2⟩ := World.ownsRow.lt h g rfl
  rcases h.2 with ⟨hv, _⟩ | ⟨g', cap', cur, hv, _, _, hle, _⟩
  · cases hv
  · simp at hv
    obtain ⟨_, rfl⟩ := hv
    exact ⟨hle, h1, h2⟩
theorem SOwn.alloc {B : Nat} {w : World} {g cap : Nat} {L : List ByteArray} (h : SOwn B w g cap L) (o : Obj) : SOwn B (w.alloc o) g cap L := World.ownsRow.alloc h o

theorem strs_oneCell (L : List ByteArray) : ∀ u ∈ L.map Value.string, u.oneCell' = true := by
  intro u hu
  obtain ⟨_, _, rfl⟩ := List.mem_map.1 hu
  rfl

theorem append_len (L news : List ByteArray) : (L ++ news).length = L.length + news.length := by simp

/-- THE LAW OF append on a slice of the call's own: its old row stays as it was below its length; every other block stays. -/
theorem wpList_append_S (w : World) {ops : Array Oper} {rest : List Oper} {o : Oper} {a : Act} {Q : Exit → Act → World → Prop}
    (hg : o.guard = none) (s x : Operand) (hop : o.op = Op.call { callee := Callee.builtin Builtin.append, args := #[s, x], argTypes := #[28, 28] })
    (B : Nat) (hB : B ≤ w.heap.size) (g cap : Nat) (L : List ByteArray) (n : Nat) (hn : n = L.length) (hs : a.eval s = .slice (some ⟨g, 0, none⟩) n cap) (hown : SOwn B w g cap L)
    (ad : Addr) (m c : Nat) (news : List ByteArray) (hx : a.eval x = .slice (some ad) m c) (hm : news.length = m)
    (hc : ∀ j u, (news.map Value.string)[j]? = some u → w.cell? (ad.add j) = some u) (hbd : n + m ≤ 1000000000)
    (hK : ∀ g' cap' w', SOwn B w' g' cap' (L ++ news) → Below B w w' → (∀ j, j < L.length → w'.cell? ⟨g, j, none⟩ = some (.string (L.getD j eS))) → (∀ k, k < w.heap.size → k ≠ g → w'.heap[k]? = w.heap[k]?) →
      wpList Try.prog ops Q rest (a.put o.dst (.slice (some ⟨g', 0, none⟩) (n + m) cap')) w') :
    wpList Try.prog ops Q (o :: rest) a w := by
  obtain ⟨i0, hi, hz0, hz1, hz2⟩ := info_parts Try.info9
  subst hm
  subst hn
  obtain ⟨_, hBg, hgl⟩ := hown.le
  by_cases hroom : L.length + news.length ≤ cap
  · refine wpList_append_fits w hg s x 28 hop B 9 i0 1 Try.underlying28 hi hz1 g L.length cap (L.map Value.string) hs hown ad news.length c (news.map Value.string) hx (by simp) hc (strs_oneCell _) hroom ?_
    intro w' ho hgr
    rw [← List.map_append, ← append_len] at ho
    have hso : SOwn B w' g cap (L ++ news) := ho
    refine hK g cap w' hso ((Below.refl _ _).grown hgr hB (fun k hk => by cases hk; exact hBg)) (fun j hj => ?_) (fun k hk hne => hgr.block k hk (by simpa using hne))
    rw [hso.cell (by simp; omega)]
    simp [List.getD_eq_getElem?_getD, List.getElem?_append_left hj]
  · refine wpList_append_grows w hg s x 28 hop 9 i0 (.string ByteArray.empty) 1 16 Try.underlying28 hi hz0 hz1 hz2 rfl (by decide) (some ⟨g, 0, none⟩) L.length cap (L.map Value.string) hs (fun h => by cases h) (by simp) ?_ ad news.length c (news.map Value.string) hx (by simp) hc (strs_oneCell _) (by omega) (by unfold maxLen; omega) (by omega) ?_
    · intro b hb j u hu
      cases hb
      exact World.ownsRow.cells hown (g := g) rfl j u hu
    · intro v' w' ho hgr
      rw [← List.map_append, ← append_len] at ho
      rcases ho.2 with ⟨hv, hz⟩ | ⟨g', cap', cur, hv, hg', r⟩
      · exfalso
        simp at hz
        obtain ⟨h1, h2⟩ := hz
        simp [h1, h2] at hroom
      · have hso : SOwn B w' g' cap' (L ++ news) := ⟨ho.1, Or.inr ⟨g', cap', cur, rfl, Nat.le_trans hB hg', r⟩⟩
        rw [append_len] at hv
        rw [hv]
        refine hK g' cap' w' hso ((Below.refl _ _).grown hgr hB (fun k hk => by cases hk)) (fun j hj => ?_) (fun k hk _ => hgr.block k hk (by simp))
        rw [World.cell?_of_block (hgr.block g hgl (by simp))]
        exact hown.cell hj

theorem one_newS (w : World) (x : ByteArray) (t : TypeId) : ∀ j u, ([x].map Value.string)[j]? = some u → (w.alloc (.cells #[.string x] t)).cell? ((⟨w.heap.size, 0, none⟩ : Addr).add j) = some u := cell_one_new w (.string x) t

/-- The one-element slice that a literal lays. -/
theorem SOwn.lit (w : World) (B : Nat) (hB : B ≤ w.heap.size) (x : ByteArray) : SOwn B (w.alloc (.cells #[.string x] 9)) w.heap.size 1 [x] :=
  ⟨rfl, Or.inr ⟨w.heap.size, 1, #[.string x], rfl, hB, heap_alloc_new w _, Nat.le_refl _, by unfold maxLen; omega, rfl, rfl⟩⟩

/-- A block of strings, whole. -/
def SBuf (wr : World) (B : Nat) (A : List ByteArray) : Prop := wr.heap[B]? = some (.cells (A.map Value.string).toArray 9 (0, 0))
theorem SBuf.cell {wr : World} {B : Nat} {A : List ByteArray} (h : SBuf wr B A) {j : Nat} (hj : j < A.length) : wr.cell? ⟨B, j, none⟩ = some (.string (A.getD j eS)) := by
  rw [cell_of_row wr B j _ 9 (0, 0) h]
  simp [hj]
theorem SBuf.free {wr : World} {B : Nat} {A : List ByteArray} (h : SBuf wr B A) (j : Nat) : wr.frozen? ⟨B, j, none⟩ = false := frozen_of_row wr B j _ 9 h
theorem SBuf.set {wr : World} {B : Nat} {A : List ByteArray} (h : SBuf wr B A) (j : Nat) (c : ByteArray) : SBuf (wr.setCell ⟨B, j, none⟩ (.string c)) B (A.set j c) := by
  unfold SBuf
  rw [heap_setCell_same wr B j _ 9 _ h]
  simp
theorem SBuf.lt {wr : World} {B : Nat} {A : List ByteArray} (h : SBuf wr B A) : B < wr.heap.size := lt_of_block h

/-- What zzCloneStrings hands back. -/
def CloneEnds (L : List ByteArray) (w : World) (e : Ending) (w' : World) : Prop := ∃ a', e = .returned (.slice a' L.length L.length) ∧ (a' = none → L = []) ∧ SRow w' a' L ∧ Below w.heap.size w w'

theorem clone_block {w1 : World} {base n g : Nat} {e : TypeId} {xs : List Value} (h : w1.ownsRow base e 1 (.slice (some ⟨g, 0, none⟩) n n) n xs) : w1.heap[g]? = some (.cells xs.toArray e (0, 0)) := by
  rcases h.2 with ⟨h1, _⟩ | ⟨g', cap, cur, h1, _, hh, _, _, hs, ht⟩
  · cases h1
  · simp at h1
    obtain ⟨rfl, rfl⟩ := h1
    rw [hh, ← ht, List.take_of_length_le (by simp [hs])]
theorem made_empty (n : Nat) : (madeCells #[Value.string eS] n).toList = (List.replicate n eS).map Value.string := by
  apply List.ext_getElem
  · simp [madeCells]
  · intro i h1 h2
    simp [madeCells, Nat.mod_one]

set_option maxHeartbeats 1000000 in
theorem clone_any (a : Option Addr) (cap : Nat) (L : List ByteArray) (w : World) (hr : SRow w a L) (hn : a = none → L = []) (hl : L.length ≤ 1048576) :
    Calls Try.prog 13 #[.slice a L.length cap] w (CloneEnds L w) := by
  obtain ⟨i0, hi, hz0, hz1, hz2⟩ := info_parts Try.info9
  have qT : ∀ (w : World) (a : Option Addr) (n c n' c' : Nat), (binOp .eql 28 (.slice a n c) (.slice none n' c')).run Try.prog w = .ok (.bool a.isNone) w := fun w a n c n' c' => Lib.run_eql_slice_nil w _ _ a n c n' c' Try.underlying28
  cases a with
  | none =>
    have h0 := hn rfl
    subst h0
    go_enter Try.func13, Try.ntmps13
    go_wp2
    go_ret
    exact ⟨none, rfl, fun _ => rfl, Or.inl rfl, Below.refl _ _⟩
  | some ad =>
    obtain ⟨n, hnL⟩ : ∃ n, n = L.length := ⟨_, rfl⟩
    rw [← hnL] at hl
    rw [← hnL]
    have HN : Hid (n = L.length) := hnL
    clear hnL hn
    go_enter Try.func13, Try.ntmps13
    go_wp2_with (at_make; refine wpList_make_full _ rfl _ _ 28 rfl w.heap.size 9 i0 (.string ByteArray.empty) 1 Try.underlying28 hi hz0 hz1 _ _ _ _ n rfl rfl rfl rfl ?b2 ?b3 ?b4 ?_)
    case b2 => rw [hz2]; omega
    case b3 => unfold maxLen; omega
    case b4 => exact Nat.le_refl _
    intro w1 hown hgrow
    have hblk := clone_block hown
    have hblk2 : SBuf w1 w.heap.size (List.replicate n eS) := by
      unfold SBuf
      rw [hblk]
      congr 2
      have := made_empty n
      first | exact congrArg List.toArray this | (rw [← this]; simp)
    have hb1 : Below w.heap.size w w1 := (Below.refl _ _).grown hgrow (Nat.le_refl _) (fun k hk => by cases hk)
    clear hown hgrow hblk
    go_wp2
    go_loopw [4] (fun i wr => ∃ (k : Nat) (A : List ByteArray), k ≤ n ∧ i = .int .i64 k ∧ Hid (A.length = n ∧ A.take k = L.take k) ∧ SBuf wr w.heap.size A ∧ Below w.heap.size w wr) (fun i _ => n - (intOf i).toNat)
    case atStart => exact ⟨0, List.replicate n eS, Nat.zero_le _, rfl, ⟨by simp, by simp⟩, hblk2, hb1⟩
    case round =>
      obtain ⟨k, A, hk, rfl, HA, hbuf, hbr⟩ := hrel
      clear hblk2 hb1
      by_cases hlt : k < n
      · have hlt' : k < L.length := by rw [← HN.out]; exact hlt
        have hkA : k < A.length := by rw [HA.out.1]; exact hlt
        obtain ⟨b, off, had, hb, hc⟩ := hr.at (by omega)
        obtain rfl := Option.some.inj had
        have hck := (hbr.cell (p := ⟨b, off + k, none⟩) hb).trans (hc k hlt')
        obtain ⟨x, hx⟩ : ∃ x, x = L.getD k eS := ⟨_, rfl⟩
        rw [← hx] at hck
        have hcell := hbuf.cell hkA
        obtain ⟨y, hy⟩ : ∃ y, y = A.getD k eS := ⟨_, rfl⟩
        rw [← hy] at hcell
        have hfree := hbuf.free k
        have hb2 := hbuf.set k x
        have hbr2 := hbr.setCell (p := ⟨w.heap.size, k, none⟩) (Nat.le_refl _) (.string x)
        have HT : Hid ((A.set k x).length = n ∧ (A.set k x).take (k + 1) = L.take (k + 1)) := by
          refine ⟨by simp [HA.out.1], ?_⟩
          rw [List.take_succ_eq_append_getElem (by simpa using hkA), List.take_succ_eq_append_getElem hlt']
          have e1 : (A.set k x).take k = A.take k := by simp [List.take_set_of_le]
          rw [e1, HA.out.2]
          simp [hx, hlt']
        clear hy hx hbuf hbr hc HA
        go_wp2
        go_roundw
        case rel => exact ⟨k + 1, A.set k x, by omega, by go_num, HT, hb2, hbr2⟩
        case measure => simp [intOf]; omega
      · have hkn : k = n := by omega
        subst hkn
        clear hr
        go_wp2
        go_ret
        have hAL : A = L := by
          have h1 := HA.out.2
          rwa [List.take_of_length_le (by rw [HA.out.1]; omega), List.take_of_length_le (by rw [← HN.out]; omega)] at h1
        subst hAL
        exact ⟨some ⟨w.heap.size, 0, none⟩, by rw [← HN.out]; rfl, (fun h => by cases h), Or.inr ⟨w.heap.size, 0, rfl, hbuf.lt, fun j hj => by rw [Nat.zero_add]; exact hbuf.cell hj⟩, hbr⟩
end Go.Proofs.Qxb6002792a
