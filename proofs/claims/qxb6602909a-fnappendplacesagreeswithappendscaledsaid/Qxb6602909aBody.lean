/-
  THE PLAIN LAW OF THE POSITION MODEL: the text of digits x 10^exp, place by place. No Go in sight but for the list functions of the contracts.
-/
import Derived.Test.Qxb6602909aScaled
namespace Go.Proofs.Qxb6602909a

/-- The digit of ds x 10^exp at the power p. -/
def digAt (ds : List Int) (exp p : Int) : Int := if (ds.length : Int) - 1 - (p - exp) < 0 ∨ (ds.length : Int) ≤ (ds.length : Int) - 1 - (p - exp) then 48 else ds.getD ((ds.length : Int) - 1 - (p - exp)).toNat 0
def hiOf (ds : List Int) (exp : Int) : Int := if exp + ds.length - 1 < 0 then 0 else exp + ds.length - 1
def lowOf (ds : List Int) (exp : Int) (K : Nat) : Int := if 0 < exp + (ds.length - K) then 0 else exp + (ds.length - K)
/-- How many bytes stand ahead of the power p's own. -/
def idx (hi p : Int) : Nat := if -1 ≤ p then (hi - p).toNat else (hi - p + 1).toNat

theorem sg_scaled (neg : Bool) (ds : List Int) (exp : Int) (K : Nat) : scaledText neg ds exp K = sg neg ++ scaledText false ds exp K := by
  unfold scaledText
  split
  · simp [sg]
  · split
    · split <;> simp [sg]
    · simp [sg]

theorem digAt_in {ds : List Int} {exp p : Int} {i : Nat} (h : (i : Int) = ds.length - 1 - (p - exp)) (hi : i < ds.length) : digAt ds exp p = ds.getD i 0 := by
  unfold digAt
  rw [if_neg (by omega), ← h]
  rfl
theorem digAt_out {ds : List Int} {exp p : Int} (h : (ds.length : Int) - 1 - (p - exp) < 0 ∨ (ds.length : Int) ≤ (ds.length : Int) - 1 - (p - exp)) : digAt ds exp p = 48 := by
  unfold digAt
  rw [if_pos h]

theorem getD_app_l {A : List Int} (B : List Int) {j : Nat} (h : j < A.length) : (A ++ B).getD j 0 = A.getD j 0 := by
  simp [List.getD_eq_getElem?_getD, List.getElem?_append_left h]
theorem getD_app_r {A : List Int} (B : List Int) {j : Nat} (h : A.length ≤ j) : (A ++ B).getD j 0 = B.getD (j - A.length) 0 := by
  simp [List.getD_eq_getElem?_getD, List.getElem?_append_right h]
theorem getD_rep {n j : Nat} {c : Int} (h : j < n) : (List.replicate n c).getD j 0 = c := by
  simp [List.getD_eq_getElem?_getD, h]
theorem getD_take' {A : List Int} {n j : Nat} (h : j < n) : (A.take n).getD j 0 = A.getD j 0 := by
  simp [List.getD_eq_getElem?_getD, h]
theorem getD_drop' (A : List Int) (n j : Nat) : (A.drop n).getD j 0 = A.getD (n + j) 0 := by
  simp [List.getD_eq_getElem?_getD, List.getElem?_drop]

/-- The text, told place by place. -/
structure BodyIs (ds : List Int) (exp : Int) (K : Nat) (R : List Int) : Prop where
  len : (R.length : Int) = if lowOf ds exp K < 0 then hiOf ds exp - lowOf ds exp K + 2 else hiOf ds exp + 1
  left : ∀ i : Nat, i < R.length → (i : Int) ≤ hiOf ds exp → R.getD i 0 = digAt ds exp (hiOf ds exp - i)
  dot : ∀ i : Nat, i < R.length → (i : Int) = hiOf ds exp + 1 → R.getD i 0 = 46
  right : ∀ i : Nat, i < R.length → hiOf ds exp + 1 < (i : Int) → R.getD i 0 = digAt ds exp (hiOf ds exp - i + 1)

theorem body_up (ds : List Int) (e K : Nat) (h1 : 1 ≤ ds.length) (hK : Trim ds K) : BodyIs ds e K (scaledText false ds e K) := by
  have hb : scaledText false ds e K = ds ++ List.replicate e 48 := by simp [scaledText, sg]
  have hhi : hiOf ds (e : Int) = e + ds.length - 1 := by unfold hiOf; rw [if_neg (by omega)]
  have hlow : ¬ lowOf ds (e : Int) K < 0 := by
    have := hK.2.1
    unfold lowOf
    split <;> omega
  have hl : (scaledText false ds e K).length = ds.length + e := by rw [hb]; simp
  refine ⟨?_, ?_, ?_, ?_⟩
  · rw [if_neg hlow, hl, hhi]; omega
  · intro i hi _
    rw [hl] at hi
    rw [hhi, hb]
    rcases Nat.lt_or_ge i ds.length with h | h
    · rw [getD_app_l _ h, digAt_in (i := i) (by omega) h]
    · rw [getD_app_r _ h, getD_rep (by omega), digAt_out (by omega)]
  · intro i hi h
    rw [hl] at hi
    omega
  · intro i hi h
    rw [hl] at hi
    omega

theorem body_mid (ds : List Int) (pt pl K : Nat) (hn : ds.length = pt + pl) (hpt : 1 ≤ pt) (hpl : 1 ≤ pl) (hK : Trim ds K) : BodyIs ds (-(pl : Int)) K (scaledText false ds (-(pl : Int)) K) := by
  have hhi : hiOf ds (-(pl : Int)) = pt - 1 := by unfold hiOf; rw [if_neg (by omega)]; omega
  have hK2 := hK.2.1
  by_cases hKp : K ≤ pt
  · have hb : scaledText false ds (-(pl : Int)) K = ds.take pt := by rw [text_mid_int false hn hpt hpl hKp]; simp [sg]
    have hl : (scaledText false ds (-(pl : Int)) K).length = pt := by rw [hb]; simp; omega
    have hlow : ¬ lowOf ds (-(pl : Int)) K < 0 := by
      unfold lowOf
      split <;> omega
    refine ⟨?_, ?_, ?_, ?_⟩
    · rw [if_neg hlow, hl, hhi]; omega
    · intro i hi _
      rw [hl] at hi
      rw [hhi, hb, getD_take' hi, digAt_in (i := i) (by omega) (by omega)]
    · intro i hi h
      rw [hl] at hi
      omega
    · intro i hi h
      rw [hl] at hi
      omega
  · have hb : scaledText false ds (-(pl : Int)) K = ds.take pt ++ ([46] ++ (ds.take K).drop pt) := by rw [text_mid_frac false hn hpt hpl (by omega)]; simp [sg]
    have ht : (ds.take pt).length = pt := by simp; omega
    have hl : (scaledText false ds (-(pl : Int)) K).length = K + 1 := by rw [hb]; simp; omega
    have hlow : lowOf ds (-(pl : Int)) K = (pt : Int) - K := by
      unfold lowOf
      split <;> omega
    refine ⟨?_, ?_, ?_, ?_⟩
    · rw [if_pos (by omega), hl, hhi, hlow]; omega
    · intro i hi h
      rw [hl] at hi
      rw [hhi] at h ⊢
      rw [hb, getD_app_l _ (by omega), getD_take' (by omega), digAt_in (i := i) (by omega) (by omega)]
    · intro i hi h
      rw [hhi] at h
      rw [hb, getD_app_r _ (by omega), ht, show i - pt = 0 by omega]
      rfl
    · intro i hi h
      rw [hl] at hi
      rw [hhi] at h ⊢
      rw [hb, getD_app_r _ (by omega), ht, getD_app_r _ (by simp; omega), getD_drop', getD_take' (by simp; omega), digAt_in (i := i - 1) (by omega) (by omega)]
      congr 1
      simp
      omega

theorem body_low (ds : List Int) (z pl K : Nat) (hn : ds.length + z = pl) (hK : Trim ds K) : BodyIs ds (-(pl : Int)) K (scaledText false ds (-(pl : Int)) K) := by
  have hhi : hiOf ds (-(pl : Int)) = 0 := by unfold hiOf; split <;> omega
  have hK1 := hK.1
  have hK2 := hK.2.1
  have hb : scaledText false ds (-(pl : Int)) K = [48] ++ ([46] ++ (List.replicate z 48 ++ ds.take K)) := by rw [text_low false hn (by omega)]; simp [sg]
  have hl : (scaledText false ds (-(pl : Int)) K).length = 2 + z + K := by rw [hb]; simp; omega
  have hlow : lowOf ds (-(pl : Int)) K = -(z : Int) - K := by
    unfold lowOf
    split <;> omega
  refine ⟨?_, ?_, ?_, ?_⟩
  · rw [if_pos (by omega), hl, hhi, hlow]; omega
  · intro i hi h
    rw [hhi] at h ⊢
    obtain rfl : i = 0 := by omega
    rw [hb, digAt_out (by omega)]
    rfl
  · intro i hi h
    rw [hhi] at h
    obtain rfl : i = 1 := by omega
    rw [hb]
    rfl
  · intro i hi h
    rw [hl] at hi
    rw [hhi] at h ⊢
    rw [hb, getD_app_r _ (by simp; omega), getD_app_r _ (by simp; omega)]
    rcases Nat.lt_or_ge i (z + 2) with hz | hz
    · rw [getD_app_l _ (by simp; omega), getD_rep (by simp; omega), digAt_out (by omega)]
    · rw [getD_app_r _ (by simp; omega), getD_take' (by simp; omega), digAt_in (i := i - 2 - z) (by omega) (by omega)]
      congr 1
      simp
      omega

theorem body_any (ds : List Int) (exp : Int) (K : Nat) (h1 : 1 ≤ ds.length) (hK : Trim ds K) : BodyIs ds exp K (scaledText false ds exp K) := by
  by_cases h0 : 0 ≤ exp
  · obtain ⟨e, rfl⟩ : ∃ e : Nat, exp = (e : Int) := ⟨exp.toNat, by omega⟩
    exact body_up ds e K h1 hK
  · obtain ⟨pl, rfl⟩ : ∃ pl : Nat, exp = -(pl : Int) := ⟨(-exp).toNat, by omega⟩
    rcases Nat.lt_or_ge pl ds.length with h | h
    · exact body_mid ds (ds.length - pl) pl K (by omega) (by omega) (by omega) hK
    · exact body_low ds (pl - ds.length) pl K (by omega) hK

theorem take_snoc_getD {R : List Int} {i : Nat} (h : i < R.length) : R.take i ++ [R.getD i 0] = R.take (i + 1) := by
  rw [List.take_succ_eq_append_getElem h]
  simp [h]

theorem hiOf_nonneg (ds : List Int) (exp : Int) : 0 ≤ hiOf ds exp := by unfold hiOf; split <;> omega
theorem lowOf_nonpos (ds : List Int) (exp : Int) (K : Nat) : lowOf ds exp K ≤ 0 := by unfold lowOf; split <;> omega

/-- One power further down. -/
theorem body_step {ds : List Int} {exp : Int} {K : Nat} {R : List Int} (h : BodyIs ds exp K R) {p : Int} (h1 : lowOf ds exp K ≤ p) (h2 : p ≤ hiOf ds exp) (hne : p ≠ -1) :
    R.take (idx (hiOf ds exp) p) ++ [digAt ds exp p] = R.take (idx (hiOf ds exp) (p - 1)) := by
  have hh := hiOf_nonneg ds exp
  have hl := h.len
  have hlo := lowOf_nonpos ds exp K
  by_cases hp : -1 ≤ p
  · have e1 : idx (hiOf ds exp) p = (hiOf ds exp - p).toNat := by unfold idx; rw [if_pos hp]
    have e2 : idx (hiOf ds exp) (p - 1) = (hiOf ds exp - p).toNat + 1 := by unfold idx; rw [if_pos (by omega)]; omega
    have hlt : (hiOf ds exp - p).toNat < R.length := by split at hl <;> omega
    have := h.left (hiOf ds exp - p).toNat hlt (by omega)
    rw [show hiOf ds exp - ((hiOf ds exp - p).toNat : Int) = p by omega] at this
    rw [e1, e2, ← take_snoc_getD hlt, this]
  · have e1 : idx (hiOf ds exp) p = (hiOf ds exp - p + 1).toNat := by unfold idx; rw [if_neg hp]
    have e2 : idx (hiOf ds exp) (p - 1) = (hiOf ds exp - p + 1).toNat + 1 := by unfold idx; rw [if_neg (by omega)]; omega
    have hlt : (hiOf ds exp - p + 1).toNat < R.length := by split at hl <;> omega
    have := h.right (hiOf ds exp - p + 1).toNat hlt (by omega)
    rw [show hiOf ds exp - ((hiOf ds exp - p + 1).toNat : Int) + 1 = p by omega] at this
    rw [e1, e2, ← take_snoc_getD hlt, this]

theorem body_dot {ds : List Int} {exp : Int} {K : Nat} {R : List Int} (h : BodyIs ds exp K R) (h1 : lowOf ds exp K ≤ -1) :
    R.take (idx (hiOf ds exp) (-1)) ++ [46] ++ [digAt ds exp (-1)] = R.take (idx (hiOf ds exp) (-1 - 1)) := by
  have hh := hiOf_nonneg ds exp
  have hl := h.len
  rw [if_pos (by omega)] at hl
  have e1 : idx (hiOf ds exp) (-1) = (hiOf ds exp + 1).toNat := by unfold idx; rw [if_pos (by omega)]; omega
  have e2 : idx (hiOf ds exp) (-1 - 1) = (hiOf ds exp + 1).toNat + 1 + 1 := by unfold idx; rw [if_neg (by omega)]; omega
  have hd := h.dot (hiOf ds exp + 1).toNat (by omega) (by omega)
  have hr := h.right ((hiOf ds exp + 1).toNat + 1) (by omega) (by omega)
  rw [show hiOf ds exp - (((hiOf ds exp + 1).toNat + 1 : Nat) : Int) + 1 = -1 by omega] at hr
  have s1 := take_snoc_getD (R := R) (i := (hiOf ds exp + 1).toNat) (by omega)
  have s2 := take_snoc_getD (R := R) (i := (hiOf ds exp + 1).toNat + 1) (by omega)
  rw [hd] at s1
  rw [hr] at s2
  rw [e1, e2, s1, s2]

theorem body_end {ds : List Int} {exp : Int} {K : Nat} {R : List Int} (h : BodyIs ds exp K R) : R.take (idx (hiOf ds exp) (lowOf ds exp K - 1)) = R := by
  have hh := hiOf_nonneg ds exp
  have hl := h.len
  have hlo := lowOf_nonpos ds exp K
  apply List.take_of_length_le
  unfold idx
  split at hl <;> split <;> omega
theorem body_start (ds : List Int) (exp : Int) (R : List Int) : R.take (idx (hiOf ds exp) (hiOf ds exp)) = [] := by
  have hh := hiOf_nonneg ds exp
  have : idx (hiOf ds exp) (hiOf ds exp) = 0 := by unfold idx; rw [if_pos (by omega)]; omega
  rw [this]
  rfl
end Go.Proofs.Qxb6602909a
