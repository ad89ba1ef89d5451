/-
  PLAIN MATHEMATICS OF DECIMAL TEXTS: no Go in sight.
-/
import Derived.Below
namespace Go.Proofs.Qxb6602909a

/-- The number that decimal digits (as bytes) write. -/
def num (ds : List Int) : Int := ds.foldl (fun n c => n * 10 + (c - 48)) 0
def Digs (ds : List Int) : Prop := ∀ c ∈ ds, 48 ≤ c ∧ c ≤ 57

theorem num_nil : num [] = 0 := rfl
theorem num_snoc (l : List Int) (c : Int) : num (l ++ [c]) = num l * 10 + (c - 48) := by simp [num]
theorem foldl_num (b : List Int) : ∀ a : Int, b.foldl (fun n c => n * 10 + (c - 48)) a = a * 10 ^ b.length + num b := by
  induction b with
  | nil => intro a; simp [num]
  | cons c b ih =>
    intro a
    simp only [num, List.foldl_cons, List.length_cons]
    rw [ih, ih (0 * 10 + (c - 48)), Int.pow_succ]
    have e : (a * 10 + (c - 48)) * 10 ^ b.length = a * (10 ^ b.length * 10) + (0 * 10 + (c - 48)) * 10 ^ b.length := by
      rw [Int.add_mul, Int.mul_assoc, Int.mul_comm 10]
      simp
    omega
theorem num_append (a b : List Int) : num (a ++ b) = num a * 10 ^ b.length + num b := by
  rw [← foldl_num]
  simp [num]
theorem num_cons (c : Int) (l : List Int) : num (c :: l) = (c - 48) * 10 ^ l.length + num l := by
  have := num_append [c] l
  simpa [num] using this
theorem num_nonneg : ∀ l : List Int, Digs l → 0 ≤ num l := by
  intro l
  induction l with
  | nil => intro _; simp [num]
  | cons c l ih =>
    intro h
    rw [num_cons]
    have hc := h c (by simp)
    have h1 : 0 ≤ (c - 48) * 10 ^ l.length := Int.mul_nonneg (by omega) (Int.pow_nonneg (by omega))
    have h2 := ih fun d hd => h d (by simp [hd])
    omega
theorem num_le_append (a b : List Int) (ha : Digs a) (hb : Digs b) : num a ≤ num (a ++ b) := by
  rw [num_append]
  have h0 := num_nonneg a ha
  have h1 := num_nonneg b hb
  have h2 : (1 : Int) ≤ 10 ^ b.length := by have : (0 : Int) < 10 ^ b.length := Int.pow_pos (by omega); omega
  have h3 : num a * 1 ≤ num a * 10 ^ b.length := Int.mul_le_mul_of_nonneg_left h2 h0
  omega
theorem Digs.take {l : List Int} (h : Digs l) (k : Nat) : Digs (l.take k) := fun c hc => h c (List.mem_of_mem_take hc)
theorem Digs.drop {l : List Int} (h : Digs l) (k : Nat) : Digs (l.drop k) := fun c hc => h c (List.mem_of_mem_drop hc)
theorem num_take_le (l : List Int) (h : Digs l) (k : Nat) : num (l.take k) ≤ num l := by
  have := num_le_append (l.take k) (l.drop k) (h.take k) (h.drop k)
  rwa [List.take_append_drop] at this
theorem num_take_succ (l : List Int) (k : Nat) (hk : k < l.length) : num (l.take (k + 1)) = num (l.take k) * 10 + (l.getD k 0 - 48) := by
  rw [List.take_succ_eq_append_getElem hk, num_snoc]
  simp [hk]
theorem Digs.getD {l : List Int} (h : Digs l) {k : Nat} (hk : k < l.length) : 48 ≤ l.getD k 0 ∧ l.getD k 0 ≤ 57 := by
  have := h (l.getD k 0) (by simp [List.getD_eq_getElem?_getD, hk])
  exact this
theorem num_zeros (z : Nat) (l : List Int) : num (List.replicate z 48 ++ l) = num l := by
  have hz : num (List.replicate z 48) = 0 := by
    induction z with
    | zero => rfl
    | succ z ih => rw [List.replicate_succ, num_cons, ih]; simp
  rw [num_append, hz]
  simp
theorem digs_zeros (z : Nat) (l : List Int) (h : Digs l) : Digs (List.replicate z 48 ++ l) := by
  intro c hc
  rcases List.mem_append.1 hc with h1 | h1
  · have := List.eq_of_mem_replicate h1
    omega
  · exact h c h1

/-- One digit more ahead of the row, the number one digit shorter. -/
theorem uitoa_step (u0 U : Int) (ds : List Int) (hd : Digs ds) (h : U * 10 ^ ds.length + num ds = u0) :
    Digs ((48 + U % 10) :: ds) ∧ (U / 10) * 10 ^ ((48 + U % 10) :: ds).length + num ((48 + U % 10) :: ds) = u0 := by
  refine ⟨fun c hc => ?_, ?_⟩
  · rcases List.mem_cons.1 hc with rfl | hc
    · omega
    · exact hd c hc
  · rw [num_cons, List.length_cons, Int.pow_succ]
    have e : U / 10 * (10 ^ ds.length * 10) + (48 + U % 10 - 48) * 10 ^ ds.length = U * 10 ^ ds.length := by
      have e1 : U = U / 10 * 10 + U % 10 := by omega
      have e2 : U / 10 * (10 ^ ds.length * 10) = U / 10 * 10 * 10 ^ ds.length := by rw [Int.mul_comm (10 ^ ds.length) 10, Int.mul_assoc]
      rw [e2, ← Int.add_mul]
      congr 1
      omega
    omega
/-- A uint64 has at most twenty digits. -/
theorem uitoa_room (u0 U : Int) (ds : List Int) (hU : 1 ≤ U) (hd : Digs ds) (h : U * 10 ^ ds.length + num ds = u0) (hu : u0 < 18446744073709551616) (hl : ds.length ≤ 20) : ds.length < 20 := by
  rcases Nat.lt_or_ge ds.length 20 with h1 | h1
  · exact h1
  · exfalso
    have h2 : ds.length = 20 := by omega
    have h3 := num_nonneg ds hd
    rw [h2] at h
    have h4 : (10 : Int) ^ 20 = 100000000000000000000 := by decide
    rw [h4] at h
    omega
end Go.Proofs.Qxb6602909a
