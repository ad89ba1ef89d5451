/-
  PLAIN MATHEMATICS OF DECIMAL TEXTS, STILL MORE: whole parts, places, the text of a value. No Go in sight.
-/
import Derived.Test.Qxb6602909aNum2
namespace Go.Proofs.Qxb6602909a

/-- The digits of a whole part. -/
def WholeD (ds : List Int) (u : Int) : Prop := Digs ds ∧ num ds = u ∧ 1 ≤ ds.length ∧ ds.length ≤ 20 ∧ (1 < ds.length → ds.getD 0 0 ≠ 48)
/-- The places of a fraction, of sixteen, the trailing noughts dropped. -/
def PlacesD (ps : List Int) (f : Int) : Prop := Digs ps ∧ 1 ≤ ps.length ∧ ps.length ≤ 16 ∧ num ps * 10 ^ (16 - ps.length) = f ∧ ps.getD (ps.length - 1) 0 ≠ 48
def sg (neg : Bool) : List Int := if neg then [45] else []
/-- The text of a value. -/
def PlaceText (neg : Bool) (whole frac : Int) (T : List Int) : Prop :=
  ∃ ds, WholeD ds whole ∧ ((frac = 0 ∧ T = sg neg ++ ds) ∨ (frac ≠ 0 ∧ ∃ ps, PlacesD ps frac ∧ T = sg neg ++ ds ++ (46 :: ps)))

theorem num_trail {A : List Int} {E : Nat} (h : ∀ j, E ≤ j → j < A.length → A.getD j 0 = 48) (hE : E ≤ A.length) : num A = num (A.take E) * 10 ^ (A.length - E) := by
  have e := List.take_append_drop E A
  have hz : A.drop E = List.replicate (A.length - E) 48 := by
    apply List.ext_getElem
    · simp
    · intro i h1 h2
      simp at h1 h2
      have := h (E + i) (by omega) (by omega)
      simp [show E + i < A.length by omega] at this
      simp [this]
  have h0 : num (A.drop E) = 0 := by
    have := num_zeros (A.length - E) []
    rw [List.append_nil] at this
    rw [hz, this]
    rfl
  have := num_append (A.take E) (A.drop E)
  rw [e, h0] at this
  simpa using this

/-- Two digits more ahead of the row. -/
theorem pair_step (f0 F : Int) (ds : List Int) (hd : Digs ds) (h : F * 10 ^ ds.length + num ds = f0) :
    Digs ((48 + F % 100 / 10) :: (48 + F % 100 % 10) :: ds) ∧ (F / 100) * 10 ^ ((48 + F % 100 / 10) :: (48 + F % 100 % 10) :: ds).length + num ((48 + F % 100 / 10) :: (48 + F % 100 % 10) :: ds) = f0 := by
  have s1 := uitoa_step f0 F ds hd h
  have s2 := uitoa_step f0 (F / 10) _ s1.1 s1.2
  have e1 : F % 10 = F % 100 % 10 := by omega
  have e2 : F / 10 % 10 = F % 100 / 10 := by omega
  have e3 : F / 10 / 10 = F / 100 := by omega
  rw [e1, e2, e3] at s2
  exact s2

/-- Sixteen places are all of it. -/
theorem places_all {f0 F : Int} {A : List Int} (hA : A.length = 16) (hd : Digs A) (hF : 0 ≤ F) (hf : f0 < 10000000000000000) (h : F * 10 ^ A.length + num A = f0) : num A = f0 := by
  have h0 := num_nonneg A hd
  rw [hA] at h
  have h4 : (10 : Int) ^ 16 = 10000000000000000 := by decide
  rw [h4] at h
  omega

/-- A digit that is no nought is there, where the number is none. -/
theorem places_some {A : List Int} (hz : ∀ j, j < A.length → A.getD j 0 = 48) : num A = 0 := by
  have := num_trail (A := A) (E := 0) (fun j _ h => hz j h) (Nat.zero_le _)
  simpa [num_nil] using this

theorem placesD_of {f : Int} {A : List Int} {e : Nat} (hA : A.length = 16) (hd : Digs A) (hn : num A = f) (he : e < 16) (hz : ∀ j, e + 1 ≤ j → j < A.length → A.getD j 0 = 48) (hne : A.getD e 0 ≠ 48) : PlacesD (A.take (e + 1)) f := by
  have hl : (A.take (e + 1)).length = e + 1 := by simp; omega
  refine ⟨hd.take _, by omega, by omega, ?_, ?_⟩
  · rw [hl, ← hn, num_trail hz (by omega), hA]
  · rw [hl]
    have : (A.take (e + 1)).getD (e + 1 - 1) 0 = A.getD e 0 := by
      simp [List.getD_eq_getElem?_getD]
    rw [this]
    exact hne

theorem wholeD_of {u U : Int} {A : List Int} {J : Nat} (hA : A.length = 20) (hJ : J < 20) (hq : U / 10 = 0) (hpos : 1 ≤ U ∨ J + 1 = 20)
    (h : Digs ((A.set J (48 + U % 10)).drop J) ∧ (U / 10) * 10 ^ ((A.set J (48 + U % 10)).drop J).length + num ((A.set J (48 + U % 10)).drop J) = u) : WholeD ((A.set J (48 + U % 10)).drop J) u := by
  have hl : ((A.set J (48 + U % 10)).drop J).length = 20 - J := by simp [hA]
  refine ⟨h.1, ?_, by omega, by omega, fun h1 => ?_⟩
  · have := h.2
    rw [hq] at this
    simpa using this
  · have hU1 : 1 ≤ U := by omega
    have : ((A.set J (48 + U % 10)).drop J).getD 0 0 = 48 + U % 10 := by
      simp [List.getD_eq_getElem?_getD, List.getElem?_drop, hA, hJ]
    rw [this]
    omega
end Go.Proofs.Qxb6602909a
