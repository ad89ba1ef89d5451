/-
  The string digitPairs of the program, read at an index.
-/
import Derived.Test.Qxb6602909aBase
namespace Go.Proofs.Qxb6602909a

/-- What a string of two hundred bytes must hold to be the digits of each number from 00 to 99. -/
def PairAt (S : ByteArray) (p : Nat) : Prop := (((S.data[2 * p]?).getD 0).toNat : Int) = 48 + (p : Int) / 10 ∧ (((S.data[2 * p + 1]?).getD 0).toNat : Int) = 48 + (p : Int) % 10

theorem byte_of (S : ByteArray) (n : Nat) (h : n < S.size) : S[n] = (S.data[n]?).getD 0 := by
  rw [Array.getElem?_eq_getElem (h := h)]
  rfl

theorem index_hi (S : ByteArray) (hS : S.size = 200) (hall : ∀ p, p < 100 → PairAt S p) (W : World) (p : Int) (h0 : 0 ≤ p) (h1 : p < 100) : (Instr.index 9 (.string S) (.int .u64 (2 * p))).run Try.prog W = .ok (.int .u8 (48 + p / 10)) W := by
  have hi : 0 ≤ 2 * p ∧ 2 * p < (S.size : Int) := by omega
  rw [run_index_string W 9 S .u64 (2 * p) Try.underlying9, dif_pos hi]
  have e := (hall p.toNat (by omega)).1
  have e2 : 2 * p.toNat = (2 * p).toNat := by omega
  rw [e2] at e
  rw [byte_of S _ (by omega), e, show ((p.toNat : Nat) : Int) = p by omega]

theorem index_lo (S : ByteArray) (hS : S.size = 200) (hall : ∀ p, p < 100 → PairAt S p) (W : World) (p : Int) (h0 : 0 ≤ p) (h1 : p < 100) : (Instr.index 9 (.string S) (.int .u64 (2 * p + 1))).run Try.prog W = .ok (.int .u8 (48 + p % 10)) W := by
  have hi : 0 ≤ 2 * p + 1 ∧ 2 * p + 1 < (S.size : Int) := by omega
  rw [run_index_string W 9 S .u64 (2 * p + 1) Try.underlying9, dif_pos hi]
  have e := (hall p.toNat (by omega)).2
  have e2 : 2 * p.toNat + 1 = (2 * p + 1).toNat := by omega
  rw [e2] at e
  rw [byte_of S _ (by omega), e, show ((p.toNat : Nat) : Int) = p by omega]

/-- As the translation lays it. -/
abbrev pairs : ByteArray := { data := (([48, 48, 48, 49, 48, 50, 48, 51, 48, 52, 48, 53, 48, 54, 48, 55, 48, 56, 48, 57, 49, 48, 49, 49, 49, 50, 49, 51, 49, 52, 49, 53, 49, 54, 49, 55, 49, 56, 49, 57, 50, 48, 50, 49, 50, 50, 50, 51, 50, 52].append [50, 53, 50, 54, 50, 55, 50, 56, 50, 57, 51, 48, 51, 49, 51, 50, 51, 51, 51, 52, 51, 53, 51, 54, 51, 55, 51, 56, 51, 57, 52, 48, 52, 49, 52, 50, 52, 51, 52, 52, 52, 53, 52, 54, 52, 55, 52, 56, 52, 57]).append ([53, 48, 53, 49, 53, 50, 53, 51, 53, 52, 53, 53, 53, 54, 53, 55, 53, 56, 53, 57, 54, 48, 54, 49, 54, 50, 54, 51, 54, 52, 54, 53, 54, 54, 54, 55, 54, 56, 54, 57, 55, 48, 55, 49, 55, 50, 55, 51, 55, 52].append [55, 53, 55, 54, 55, 55, 55, 56, 55, 57, 56, 48, 56, 49, 56, 50, 56, 51, 56, 52, 56, 53, 56, 54, 56, 55, 56, 56, 56, 57, 57, 48, 57, 49, 57, 50, 57, 51, 57, 52, 57, 53, 57, 54, 57, 55, 57, 56, 57, 57])).toArray }
/-- As the walk respells it. -/
abbrev pairsN : ByteArray := { data := #[48, 48, 48, 49, 48, 50, 48, 51, 48, 52, 48, 53, 48, 54, 48, 55, 48, 56, 48, 57, 49, 48, 49, 49, 49, 50, 49, 51, 49, 52, 49, 53, 49, 54, 49, 55, 49, 56, 49, 57, 50, 48, 50, 49, 50, 50, 50, 51, 50, 52, 50, 53, 50, 54, 50, 55, 50, 56, 50, 57, 51, 48, 51, 49, 51, 50, 51, 51, 51, 52, 51, 53, 51, 54, 51, 55, 51, 56, 51, 57, 52, 48, 52, 49, 52, 50, 52, 51, 52, 52, 52, 53, 52, 54, 52, 55, 52, 56, 52, 57, 53, 48, 53, 49, 53, 50, 53, 51, 53, 52, 53, 53, 53, 54, 53, 55, 53, 56, 53, 57, 54, 48, 54, 49, 54, 50, 54, 51, 54, 52, 54, 53, 54, 54, 54, 55, 54, 56, 54, 57, 55, 48, 55, 49, 55, 50, 55, 51, 55, 52, 55, 53, 55, 54, 55, 55, 55, 56, 55, 57, 56, 48, 56, 49, 56, 50, 56, 51, 56, 52, 56, 53, 56, 54, 56, 55, 56, 56, 56, 57, 57, 48, 57, 49, 57, 50, 57, 51, 57, 52, 57, 53, 57, 54, 57, 55, 57, 56, 57, 57] }

theorem pairs_size : pairs.size = 200 := by decide +kernel
theorem pairs_all : ∀ p : Fin 100, (((pairs.data[2 * p.val]?).getD 0).toNat : Int) = 48 + (p.val : Int) / 10 ∧ (((pairs.data[2 * p.val + 1]?).getD 0).toNat : Int) = 48 + (p.val : Int) % 10 := by decide +kernel
theorem pairsN_size : pairsN.size = 200 := by decide +kernel
theorem pairsN_all : ∀ p : Fin 100, (((pairsN.data[2 * p.val]?).getD 0).toNat : Int) = 48 + (p.val : Int) / 10 ∧ (((pairsN.data[2 * p.val + 1]?).getD 0).toNat : Int) = 48 + (p.val : Int) % 10 := by decide +kernel

theorem pairs_hi (W : World) (p : Int) (h0 : 0 ≤ p) (h1 : p < 100) : (Instr.index 9 (.string pairs) (.int .u64 (2 * p))).run Try.prog W = .ok (.int .u8 (48 + p / 10)) W := index_hi pairs pairs_size (fun p h => pairs_all ⟨p, h⟩) W p h0 h1
theorem pairs_lo (W : World) (p : Int) (h0 : 0 ≤ p) (h1 : p < 100) : (Instr.index 9 (.string pairs) (.int .u64 (2 * p + 1))).run Try.prog W = .ok (.int .u8 (48 + p % 10)) W := index_lo pairs pairs_size (fun p h => pairs_all ⟨p, h⟩) W p h0 h1
theorem pairsN_hi (W : World) (p : Int) (h0 : 0 ≤ p) (h1 : p < 100) : (Instr.index 9 (.string pairsN) (.int .u64 (2 * p))).run Try.prog W = .ok (.int .u8 (48 + p / 10)) W := index_hi pairsN pairsN_size (fun p h => pairsN_all ⟨p, h⟩) W p h0 h1
theorem pairsN_lo (W : World) (p : Int) (h0 : 0 ≤ p) (h1 : p < 100) : (Instr.index 9 (.string pairsN) (.int .u64 (2 * p + 1))).run Try.prog W = .ok (.int .u8 (48 + p % 10)) W := index_lo pairsN pairsN_size (fun p h => pairsN_all ⟨p, h⟩) W p h0 h1
end Go.Proofs.Qxb6602909a
