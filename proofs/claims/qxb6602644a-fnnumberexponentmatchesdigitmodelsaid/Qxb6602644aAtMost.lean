import Derived.Test.Qxb6602644aExp
import Derived.Test.Qxb6602644aNum2
namespace Go.Proofs.Qxb6602644a
open Go.RowKit

/-- What zzDigitsAtMost answers. -/
def AtMostEnds (sig : List Int) (w : World) (e : Ending) (w' : World) : Prop := ∃ r : Bool, e = .returned (.bool r) ∧ Below w.heap.size w w' ∧ (r = true ↔ num sig ≤ 1073741822)

set_option maxHeartbeats 1000000 in
theorem atMost_ne (ao : Option Addr) (cap : Nat) (sig : List Int) (s : ByteArray) (w : World) (hs : s.size = 10) (hn : sig.length ≠ 10) (hd : Digs sig) (hz : sig = [] ∨ sig.getD 0 0 ≠ 48) :
    Calls Try.prog 16 #[.slice ao sig.length cap, .string s] w (AtMostEnds sig w) := by
  have H := atMost_len hd hz hn
  obtain ⟨n, hn'⟩ : ∃ n, n = sig.length := ⟨_, rfl⟩
  rw [← hn'] at H hn
  rw [← hn']
  have hs' : (s.size : Int) = 10 := by omega
  have hne : ((n : Int) == 10) = false := by simp; omega
  have HH : Hid (n < 10 ↔ num sig ≤ 1073741822) := H
  clear hn' H hz hd hs
  go_enter Try.func16, Try.ntmps16
  go_wp2
  go_ret
  exact ⟨decide ((n : Int) < 10), rfl, Below.refl _ _, by rw [← HH.out]; simp; omega⟩

set_option maxHeartbeats 1000000 in
theorem atMost_eq (b off cap : Nat) (sig : List Int) (s : ByteArray) (w : World) (hs : s.size = 10) (hsb : ∀ k (h : k < s.size), (s[k].toNat : Int) = LIM.getD k 0) (hn : sig.length = 10) (hd : Digs sig)
    (hcell : ∀ j, j < sig.length → w.cell? ⟨b, off + j, none⟩ = some (.int .u8 (sig.getD j 0))) :
    Calls Try.prog 16 #[.slice (some ⟨b, off, none⟩) sig.length cap, .string s] w (AtMostEnds sig w) := by
  have hs' : (s.size : Int) = 10 := by omega
  have HS : Hid (s.size = 10) := hs
  have HN : Hid (sig.length = 10) := hn
  rw [hn]
  rw [hn] at hcell
  have hbl : b < w.heap.size := block_lt_of_cell (hcell 0 (by omega))
  clear hs hn
  go_enter Try.func16, Try.ntmps16
  go_wp2
  go_loopw [5] (fun i wr => ∃ k : Nat, k ≤ 10 ∧ i = .int .i64 k ∧ Hid (sig.take k = LIM.take k) ∧ Below w.heap.size w wr) (fun i _ => 10 - (intOf i).toNat)
  case atStart => exact ⟨0, Nat.zero_le _, rfl, (show _ = _ by simp), Below.refl _ _⟩
  case round =>
    obtain ⟨k, hk, rfl, HE, hbr⟩ := hrel
    by_cases hlt : k < 10
    · have hck := (hbr.cell (p := ⟨b, off + k, none⟩) hbl).trans (hcell k hlt)
      have hlt' : k < s.size := by rw [HS.out]; exact hlt
      have hsk := hsb k hlt'
      obtain ⟨y, hy⟩ : ∃ y, y = sig.getD k 0 := ⟨_, rfl⟩
      obtain ⟨l, hl⟩ : ∃ l, l = LIM.getD k 0 := ⟨_, rfl⟩
      rw [← hy] at hck
      rw [← hl] at hsk
      have HY : Hid (y = sig.getD k 0 ∧ l = LIM.getD k 0) := ⟨hy, hl⟩
      clear hcell hy hsb hl
      have hlt2 : (k : Int) < 10 := by omega
      by_cases he : y = l
      · have he' : (y == l) = true := by simp [he]
        go_wp2
        go_quiet (fail)
        go_wp2
        go_roundw
        case rel =>
          refine ⟨k + 1, by omega, by go_num, ?_, below_drewN hbr nq⟩
          show _ = _
          have h1 : k < sig.length := by rw [HN.out]; exact hlt
          have h2 : k < LIM.length := hlt
          rw [List.take_succ_eq_append_getElem h1, List.take_succ_eq_append_getElem h2, HE.out]
          have h3 : y = sig[k] := by rw [HY.out.1]; simp [h1]
          have h4 : l = LIM[k] := by rw [HY.out.2]; simp [h2]
          rw [← h3, ← h4, he]
        case measure => simp [intOf]; omega
      · have he' : (y == l) = false := by simp [he]
        go_wp2
        go_quiet (fail)
        go_wp2
        go_quiet (fail)
        go_wp2
        go_ret
        have hd1 := atMost_diff hd digs_LIM (by rw [HN.out]; rfl) (k := k) (by rw [HN.out]; exact hlt) HE.out (by rw [← HY.out.1, ← HY.out.2]; exact he)
        rw [← HY.out.1, ← HY.out.2, num_LIM] at hd1
        exact ⟨decide (y < l), rfl, below_drewN (below_drewN hbr _) _, by rw [← hd1]; simp⟩
    · go_wp2
      go_ret
      have hk10 : k = 10 := by omega
      subst hk10
      have e : sig = LIM := by
        have := HE.out
        rwa [List.take_of_length_le (by rw [HN.out]; omega), List.take_of_length_le (by decide)] at this
      exact ⟨true, rfl, hbr, by simp [e, num_LIM]⟩
end Go.Proofs.Qxb6602644a
