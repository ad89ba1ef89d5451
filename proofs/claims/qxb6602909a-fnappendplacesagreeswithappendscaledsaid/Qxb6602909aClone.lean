/-
  zzClone_dB1 and zzSame_dB1, by their contracts.
-/
import Derived.Test.Qxb6602909aBase
import Derived.Lib.SliceRun
namespace Go.Proofs.Qxb6602909a
open Go.RowKit

/-- What zzClone hands back: a slice without spare room that reads as the one that came in. -/
def CloneEnds (L : List Int) (w : World) (e : Ending) (w' : World) : Prop := ∃ a', e = .returned (.slice a' L.length L.length) ∧ (a' = none → L = []) ∧ (∀ ad, a' = some ad → ad.block < w'.heap.size) ∧ Row w' a' L ∧ Below w.heap.size w w'

theorem clone_block {w1 : World} {base n g : Nat} {e : TypeId} {xs : List Value} (h : w1.ownsRow base e 1 (.slice (some ⟨g, 0, none⟩) n n) n xs) : w1.heap[g]? = some (.cells xs.toArray e (0, 0)) := by
  rcases h.2 with ⟨h1, _⟩ | ⟨g', cap, cur, h1, _, hh, _, _, hs, ht⟩
  · cases h1
  · simp at h1
    obtain ⟨rfl, rfl⟩ := h1
    rw [hh, ← ht, List.take_of_length_le (by simp [hs])]

theorem made_zeros (n : Nat) : (madeCells #[Value.int IntKind.u8 0] n).toList = (List.replicate n (0 : Int)).map (Value.int .u8) := by
  apply List.ext_getElem
  · simp [madeCells]
  · intro i h1 h2
    simp [madeCells, Nat.mod_one]

set_option maxHeartbeats 1000000 in
theorem clone_any (a : Option Addr) (cap : Nat) (L : List Int) (w : World) (hr : Row w a L) (hn : a = none → L = []) (hl : L.length ≤ 1048576) :
    Calls Try.prog 11 #[.slice a L.length cap] w (CloneEnds L w) := by
  obtain ⟨i0, hi, hz0, hz1, hz2⟩ := info_parts Try.info5
  have qT : ∀ (w : World) (a : Option Addr) (n c n' c' : Nat), (binOp .eql 22 (.slice a n c) (.slice none n' c')).run Try.prog w = .ok (.bool a.isNone) w := fun w a n c n' c' => Lib.run_eql_slice_nil w _ _ a n c n' c' Try.underlying22
  cases a with
  | none =>
    have h0 := hn rfl
    subst h0
    go_enter Try.func11, Try.ntmps11
    go_wp2
    go_ret
    exact ⟨none, rfl, fun _ => rfl, (fun ad h => by cases h), Or.inl rfl, Below.refl _ _⟩
  | some ad =>
    obtain ⟨n, hnL⟩ : ∃ n, n = L.length := ⟨_, rfl⟩
    rw [← hnL] at hl
    rw [← hnL]
    have HN : Hid (n = L.length) := hnL
    clear hnL hn
    go_enter Try.func11, Try.ntmps11
    go_wp2_with (at_make; refine wpList_make_full _ rfl _ _ 22 rfl w.heap.size 5 i0 (.int .u8 0) 1 Try.underlying22 hi hz0 hz1 _ _ _ _ n rfl rfl rfl rfl ?b2 ?b3 ?b4 ?_)
    case b2 => rw [hz2]; omega
    case b3 => unfold maxLen; omega
    case b4 => exact Nat.le_refl _
    intro w1 hown hgrow
    have hblk := clone_block hown
    rw [made_zeros] at hblk
    have hb1 : Below w.heap.size w w1 := (Below.refl _ _).grown hgrow (Nat.le_refl _) (fun k hk => by cases hk)
    clear hown hgrow
    go_wp2
    go_loopw [4] (fun i wr => ∃ (k : Nat) (A : List Int), k ≤ n ∧ i = .int .i64 k ∧ Hid (A.length = n ∧ A.take k = L.take k) ∧ Buf wr w.heap.size 5 A ∧ Below w.heap.size w wr) (fun i _ => n - (intOf i).toNat)
    case atStart => exact ⟨0, List.replicate n 0, Nat.zero_le _, rfl, ⟨by simp, by simp⟩, hblk, hb1⟩
    case round =>
      obtain ⟨k, A, hk, rfl, HA, hbuf, hbr⟩ := hrel
      clear hblk hb1
      by_cases hlt : k < n
      · have hlt' : k < L.length := by rw [← HN.out]; exact hlt
        have hkA : k < A.length := by rw [HA.out.1]; exact hlt
        obtain ⟨b, off, had, hb, hc⟩ := hr.at (by omega)
        obtain rfl := Option.some.inj had
        have hck := (hbr.cell (p := ⟨b, off + k, none⟩) hb).trans (hc k hlt')
        obtain ⟨x, hx⟩ : ∃ x, x = L.getD k 0 := ⟨_, rfl⟩
        rw [← hx] at hck
        have hcell := hbuf.cell hkA
        obtain ⟨y, hy⟩ : ∃ y, y = A.getD k 0 := ⟨_, rfl⟩
        rw [← hy] at hcell
        have hfree := hbuf.free k
        have hb2 := hbuf.set k x
        have hbr2 := hbr.setCell (p := ⟨w.heap.size, k, none⟩) (Nat.le_refl _) (.int .u8 x)
        have HT : Hid ((A.set k x).length = n ∧ (A.set k x).take (k + 1) = L.take (k + 1)) := by
          refine ⟨by simp [HA.out.1], ?_⟩
          rw [List.take_succ_eq_append_getElem (by simpa using hkA), List.take_succ_eq_append_getElem hlt']
          have e1 : (A.set k x).take k = A.take k := by simp [List.take_set_of_le]
          rw [e1, HA.out.2]
          simp [hx, hlt']
        clear hy hx hbuf hbr hc HA
        go_wp2
        go_roundw
        case rel => exact ⟨k + 1, A.set k x, by omega, by go_num, HT, hb2, hbr2⟩
        case measure => simp [intOf]; omega
      · have hkn : k = n := by omega
        subst hkn
        clear hr
        go_wp2
        go_ret
        have hAL : A = L := by
          have h1 := HA.out.2
          rwa [List.take_of_length_le (by rw [HA.out.1]; omega), List.take_of_length_le (by rw [← HN.out]; omega)] at h1
        subst hAL
        exact ⟨some ⟨w.heap.size, 0, none⟩, by rw [← HN.out]; rfl, (fun h => by cases h), (fun ad h => by cases h; exact hbuf.lt), Or.inr ⟨w.heap.size, 0, rfl, hbuf.lt, fun j hj => by rw [Nat.zero_add]; exact hbuf.cell hj⟩, hbr⟩

set_option maxHeartbeats 1000000 in
theorem same_any (a1 a2 : Option Addr) (c1 c2 : Nat) (L : List Int) (w : World) (h1 : Row w a1 L) (h2 : Row w a2 L) (hl : L.length ≤ 1000000000) :
    Calls Try.prog 14 #[.slice a1 L.length c1, .slice a2 L.length c2] w fun e w' => e = .returned (.bool true) ∧ Below w.heap.size w w' := by
  obtain ⟨n, hnL⟩ : ∃ n, n = L.length := ⟨_, rfl⟩
  rw [← hnL] at hl
  rw [← hnL]
  have HN : Hid (n = L.length) := hnL
  clear hnL
  go_enter Try.func14, Try.ntmps14
  go_wp2
  go_loopw [5] (fun i wr => ∃ k : Nat, k ≤ n ∧ i = .int .i64 k ∧ Below w.heap.size w wr) (fun i _ => n - (intOf i).toNat)
  case atStart => exact ⟨0, Nat.zero_le _, rfl, Below.refl _ _⟩
  case round =>
    obtain ⟨k, hk, rfl, hbr⟩ := hrel
    by_cases hlt : k < n
    · have hlt' : k < L.length := by rw [← HN.out]; exact hlt
      obtain ⟨b, off, rfl, hb, hc⟩ := h1.at (by omega)
      obtain ⟨b', off', rfl, hb', hc'⟩ := h2.at (by omega)
      have hck := (hbr.cell (p := ⟨b, off + k, none⟩) hb).trans (hc k hlt')
      have hck' := (hbr.cell (p := ⟨b', off' + k, none⟩) hb').trans (hc' k hlt')
      obtain ⟨x, hx⟩ : ∃ x, x = L.getD k 0 := ⟨_, rfl⟩
      rw [← hx] at hck hck'
      have hlt2 : (k : Int) < (n : Int) := by omega
      clear hx hc hc' h1 h2
      go_wp2
      go_quiet (fail)
      go_wp2
      go_roundw
      case rel => exact ⟨k + 1, by omega, by go_num, below_drewN hbr nq⟩
      case measure => simp [intOf]; omega
    · clear h1 h2
      go_wp2
      go_ret
      exact ⟨rfl, hbr⟩
end Go.Proofs.Qxb6602909a
