/-
  PLAIN MATHEMATICS OF DECIMAL TEXTS, MORE: comparing by length and by the first digit that differs. No Go in sight.
-/
import Derived.Test.Qxb6602909aNum
namespace Go.Proofs.Qxb6602909a

theorem num_lt_pow : ∀ l : List Int, Digs l → num l < 10 ^ l.length := by
  intro l
  induction l with
  | nil => intro _; simp [num]
  | cons c l ih =>
    intro h
    rw [num_cons, List.length_cons, Int.pow_succ]
    have hc := h c (by simp)
    have h1 := ih fun d hd => h d (by simp [hd])
    have hp : (0 : Int) < 10 ^ l.length := Int.pow_pos (by omega)
    have h2 : (c - 48) * 10 ^ l.length ≤ 9 * 10 ^ l.length := Int.mul_le_mul_of_nonneg_right (by omega) (by omega)
    omega

theorem pow_le_num {c : Int} {l : List Int} (hc : 49 ≤ c) (hl : Digs l) : 10 ^ l.length ≤ num (c :: l) := by
  rw [num_cons]
  have h0 := num_nonneg l hl
  have hp : (0 : Int) < 10 ^ l.length := Int.pow_pos (by omega)
  have h2 : 1 * 10 ^ l.length ≤ (c - 48) * 10 ^ l.length := Int.mul_le_mul_of_nonneg_right (by omega) (by omega)
  omega

theorem num_lex {p r s : List Int} {a b : Int} (hr : Digs r) (hs : Digs s) (hl : r.length = s.length) (hab : a < b) : num (p ++ a :: r) < num (p ++ b :: s) := by
  rw [num_append, num_append, num_cons, num_cons, List.length_cons, List.length_cons, hl]
  have h1 := num_lt_pow r hr
  have h2 := num_nonneg s hs
  rw [hl] at h1
  have hp : (0 : Int) < 10 ^ s.length := Int.pow_pos (by omega)
  have h3 : (a - 48 + 1) * 10 ^ s.length ≤ (b - 48) * 10 ^ s.length := Int.mul_le_mul_of_nonneg_right (by omega) (by omega)
  rw [Int.add_mul] at h3
  omega

theorem split_at {l : List Int} {k : Nat} (hk : k < l.length) : l = l.take k ++ l.getD k 0 :: l.drop (k + 1) := by
  simp [hk]

/-- The first digit that differs decides. -/
theorem atMost_diff {sig lim : List Int} (hs : Digs sig) (hl : Digs lim) (hn : sig.length = lim.length) {k : Nat} (hk : k < sig.length) (he : sig.take k = lim.take k) (hne : sig.getD k 0 ≠ lim.getD k 0) :
    sig.getD k 0 < lim.getD k 0 ↔ num sig ≤ num lim := by
  have e1 := split_at hk
  have e2 := split_at (l := lim) (k := k) (by omega)
  constructor
  · intro h
    rw [e1, e2, he]
    exact Int.le_of_lt (num_lex (hs.drop _) (hl.drop _) (by simp; omega) h)
  · intro h
    rcases Int.lt_or_gt_of_ne hne with h1 | h1
    · exact h1
    · exfalso
      have h2 : num lim < num sig := by
        rw [e1, e2, he]
        exact num_lex (hl.drop _) (hs.drop _) (by simp; omega) h1
      omega

theorem pow_mono10 {m n : Nat} (h : m ≤ n) : (10 : Int) ^ m ≤ 10 ^ n := by
  obtain ⟨d, rfl⟩ : ∃ d, n = m + d := ⟨n - m, by omega⟩
  rw [Int.pow_add]
  have hp : (0 : Int) < 10 ^ m := Int.pow_pos (by omega)
  have hq : (0 : Int) < 10 ^ d := Int.pow_pos (by omega)
  have := Int.mul_le_mul_of_nonneg_left (show (1 : Int) ≤ 10 ^ d by omega) (show (0 : Int) ≤ 10 ^ m by omega)
  omega

/-- Digits without a leading nought: fewer than ten are below the bound, more than ten above it. -/
theorem atMost_len {sig : List Int} (hs : Digs sig) (hz : sig = [] ∨ sig.getD 0 0 ≠ 48) (hn : sig.length ≠ 10) : sig.length < 10 ↔ num sig ≤ 1073741822 := by
  constructor
  · intro h
    have h1 := num_lt_pow sig hs
    have h2 := pow_mono10 (show sig.length ≤ 9 by omega)
    have h3 : (10 : Int) ^ 9 = 1000000000 := by decide
    omega
  · intro h
    rcases Nat.lt_or_ge sig.length 10 with h1 | h1
    · exact h1
    · exfalso
      rcases hz with rfl | hz
      · simp at h1
      · cases sig with
        | nil => simp at h1
        | cons c l =>
          simp at hz
          have hc := hs c (by simp)
          have h2 := pow_le_num (c := c) (l := l) (by omega) (fun d hd => hs d (by simp [hd]))
          simp at h1 hn
          have h3 := pow_mono10 (show 10 ≤ l.length by omega)
          have h4 : (10 : Int) ^ 10 = 10000000000 := by decide
          omega

/-- The bound's own digits. -/
def LIM : List Int := [49, 48, 55, 51, 55, 52, 49, 56, 50, 50]
theorem num_LIM : num LIM = 1073741822 := by decide
theorem digs_LIM : Digs LIM := by
  intro c hc
  simp [LIM] at hc
  omega

theorem num_drop_zeros {ds : List Int} {k : Nat} (hk : ∀ j, j < k → ds.getD j 0 = 48) (hl : k ≤ ds.length) : num (ds.drop k) = num ds := by
  have h : ds.take k = List.replicate k 48 := by
    apply List.ext_getElem
    · simp; omega
    · intro i h1 h2
      have hi : i < k := by simp at h2; exact h2
      have := hk i hi
      simp [show i < ds.length by omega] at this
      simp [this]
  have e := List.take_append_drop k ds
  rw [h] at e
  rw [← e, List.drop_left' (by simp), num_zeros]
end Go.Proofs.Qxb6602909a
