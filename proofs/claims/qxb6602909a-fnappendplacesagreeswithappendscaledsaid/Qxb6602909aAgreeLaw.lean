/-
  THE PLAIN LAW: the text of whole and fraction is the text of the value's digits at exponent -16. No Go in sight but for the list functions of the contracts.
-/
import Derived.Test.Qxb6602909aBody
namespace Go.Proofs.Qxb6602909a

theorem num_inj : ∀ a b : List Int, Digs a → Digs b → a.length = b.length → num a = num b → a = b := by
  intro a
  induction a with
  | nil => intro b _ _ hl _; exact (List.eq_nil_of_length_eq_zero hl.symm).symm
  | cons c a ih =>
    intro b ha hb hl hn
    cases b with
    | nil => simp at hl
    | cons d b =>
      simp at hl
      have ha' : Digs a := fun x hx => ha x (by simp [hx])
      have hb' : Digs b := fun x hx => hb x (by simp [hx])
      rcases Int.lt_trichotomy c d with h | h | h
      · have := num_lex (p := []) ha' hb' hl h
        simp only [List.nil_append] at this
        omega
      · subst h
        rw [num_cons, num_cons, hl] at hn
        rw [ih b ha' hb' hl (by omega)]
      · have := num_lex (p := []) hb' ha' hl.symm h
        simp only [List.nil_append] at this
        omega

theorem pow_le_num' {l : List Int} (hd : Digs l) (hl : 1 ≤ l.length) (h0 : l.getD 0 0 ≠ 48) : 10 ^ (l.length - 1) ≤ num l := by
  cases l with
  | nil => simp at hl
  | cons c l =>
    simp at h0
    have hc := hd c (by simp)
    have := pow_le_num (c := c) (l := l) (by omega) (fun x hx => hd x (by simp [hx]))
    simpa using this

theorem whole_unique {ds dw : List Int} {u : Int} (h : WholeD ds u) (hd : Digs dw) (hn : num dw = u) (hl : 1 ≤ dw.length) (h0 : dw.getD 0 0 ≠ 48) : ds = dw := by
  obtain ⟨h1, h2, h3, _, h5⟩ := h
  refine num_inj ds dw h1 hd ?_ (by omega)
  have a1 := num_lt_pow ds h1
  have a2 := num_lt_pow dw hd
  have a3 := pow_le_num' hd hl h0
  rcases Nat.lt_trichotomy ds.length dw.length with h | h | h
  · have := pow_mono10 (show ds.length ≤ dw.length - 1 by omega)
    omega
  · exact h
  · have a4 := pow_le_num' h1 h3 (h5 (by omega))
    have := pow_mono10 (show dw.length ≤ ds.length - 1 by omega)
    omega

theorem num_pos_of {l : List Int} (hd : Digs l) (hl : 1 ≤ l.length) (h0 : l.getD 0 0 ≠ 48) : 1 ≤ num l := by
  have a3 := pow_le_num' hd hl h0
  have : (0 : Int) < 10 ^ (l.length - 1) := Int.pow_pos (by omega)
  omega

theorem whole_zero {ds : List Int} (h : WholeD ds 0) : ds = [48] := by
  obtain ⟨h1, h2, h3, _, h5⟩ := h
  by_cases hl : 1 < ds.length
  · have := num_pos_of h1 h3 (h5 hl)
    omega
  · refine num_inj ds [48] h1 (fun c hc => by simp at hc; omega) (by simp; omega) (by rw [h2]; decide)

theorem digs_rep (n : Nat) : Digs (List.replicate n 48) := fun c hc => by
  have := List.eq_of_mem_replicate hc
  omega
theorem num_rep (n : Nat) : num (List.replicate n 48) = 0 := by
  have := num_zeros n []
  rw [List.append_nil] at this
  rw [this]
  rfl
theorem Digs.app {a b : List Int} (ha : Digs a) (hb : Digs b) : Digs (a ++ b) := fun c hc => (List.mem_append.1 hc).elim (ha c) (hb c)

theorem places_unique {ps f16 : List Int} {f : Int} (h : PlacesD ps f) (hd : Digs f16) (hl : f16.length = 16) (hn : num f16 = f) : f16 = ps ++ List.replicate (16 - ps.length) 48 := by
  obtain ⟨h1, h2, h3, h4, _⟩ := h
  refine num_inj _ _ hd (h1.app (digs_rep _)) (by simp; omega) ?_
  rw [num_append, num_rep, hn, ← h4]
  simp

def strip (l : List Int) : List Int := l.dropWhile (· == 48)
theorem strip_split (l : List Int) : ∃ z, l = List.replicate z 48 ++ strip l ∧ (strip l = [] ∨ (strip l).getD 0 0 ≠ 48) := by
  induction l with
  | nil => exact ⟨0, rfl, Or.inl rfl⟩
  | cons c l ih =>
    by_cases hc : c = 48
    · obtain ⟨z, h1, h2⟩ := ih
      have e : strip (c :: l) = strip l := by simp [strip, hc]
      refine ⟨z + 1, ?_, by rw [e]; exact h2⟩
      rw [e, List.replicate_succ, List.cons_append, ← h1, hc]
    · have e : strip (c :: l) = c :: l := by simp [strip, hc]
      exact ⟨0, by rw [e]; rfl, Or.inr (by rw [e]; simpa using hc)⟩

/-- The digits of whole x 10^16 + frac. -/
def ValueD (whole frac : Int) (V : List Int) : Prop := ∃ dw f16, Digs f16 ∧ f16.length = 16 ∧ num f16 = frac ∧ Digs dw ∧ num dw = whole ∧ dw.length ≤ 20 ∧ (dw = [] ∨ dw.getD 0 0 ≠ 48) ∧ ((dw ≠ [] ∧ V = dw ++ f16) ∨ (dw = [] ∧ V = strip f16))

theorem ValueD.ok {whole frac : Int} {V : List Int} (h : ValueD whole frac V) (hpos : ¬ (whole = 0 ∧ frac = 0)) : 1 ≤ V.length ∧ V.length ≤ 36 ∧ V.getD 0 0 ≠ 48 := by
  obtain ⟨dw, f16, h1, h2, h3, h4, h5, h6, h7, h8⟩ := h
  rcases h8 with ⟨hne, rfl⟩ | ⟨rfl, rfl⟩
  · have hl : 1 ≤ dw.length := by
      rcases Nat.eq_zero_or_pos dw.length with h | h
      · exact absurd (List.eq_nil_of_length_eq_zero h) hne
      · exact h
    have h0 := h7.resolve_left hne
    refine ⟨by simp; omega, by simp; omega, ?_⟩
    rw [getD_app_l _ (by omega)]
    exact h0
  · obtain ⟨z, e, hs⟩ := strip_split f16
    have hne : strip f16 ≠ [] := by
      intro hn
      rw [hn, List.append_nil] at e
      have : num f16 = 0 := by rw [e]; exact num_rep z
      exact hpos ⟨by rw [← h5]; rfl, by omega⟩
    have hll := congrArg List.length e
    simp at hll
    have hl : 1 ≤ (strip f16).length := by
      rcases Nat.eq_zero_or_pos (strip f16).length with h | h
      · exact absurd (List.eq_nil_of_length_eq_zero h) hne
      · exact h
    exact ⟨hl, by omega, hs.resolve_left hne⟩

theorem agree_law (neg : Bool) {whole frac : Int} {T V : List Int} {K : Nat} (hT : PlaceText neg whole frac T) (hV : ValueD whole frac V) (hpos : ¬ (whole = 0 ∧ frac = 0)) (hK : Trim V K) : T = scaledText neg V (-16) K := by
  obtain ⟨ds, hds, hT⟩ := hT
  obtain ⟨dw, f16, h1, h2, h3, h4, h5, h6, h7, h8⟩ := hV
  rcases h8 with ⟨hne, rfl⟩ | ⟨rfl, rfl⟩
  · have hl : 1 ≤ dw.length := by
      rcases Nat.eq_zero_or_pos dw.length with h | h
      · exact absurd (List.eq_nil_of_length_eq_zero h) hne
      · exact h
    have hdd : ds = dw := whole_unique hds h4 h5 hl (h7.resolve_left hne)
    subst hdd
    have hVl : (ds ++ f16).length = ds.length + 16 := by simp [h2]
    rcases hT with ⟨hf, rfl⟩ | ⟨hf, ps, hp, rfl⟩
    · have hz : f16 = List.replicate 16 48 := num_inj _ _ h1 (digs_rep _) (by simp [h2]) (by rw [num_rep, h3, hf])
      have hKp : K ≤ ds.length := by
        rcases Nat.lt_or_ge ds.length K with h | h
        · exfalso
          have hK2 := hK.2.1
          apply hK.2.2.1
          rw [getD_app_r _ (by omega), hz, getD_rep (by omega)]
        · exact h
      have := text_mid_int neg (pl := 16) hVl hl (by omega) hKp
      rw [show (-((16 : Nat) : Int)) = -16 by omega] at this
      rw [this]
      simp
    · have hu := places_unique hp h1 h2 h3
      have hp1 := hp.2.1
      have hp2 := hp.2.2.1
      have hKe : K = ds.length + ps.length := by
        refine Trim.unique hK ⟨by omega, by omega, ?_, fun j hj1 hj2 => ?_⟩
        · rw [getD_app_r _ (by omega), hu, getD_app_l _ (by omega), show ds.length + ps.length - 1 - ds.length = ps.length - 1 by omega]
          exact hp.2.2.2.2
        · rw [getD_app_r _ (by omega), hu, getD_app_r _ (by omega), getD_rep (by omega)]
      have := text_mid_frac neg (K := K) (pl := 16) hVl hl (by omega) (by omega)
      rw [show (-((16 : Nat) : Int)) = -16 by omega] at this
      rw [this, hKe]
      have e1 : (ds ++ f16).take ds.length = ds := by simp
      have e2 : ((ds ++ f16).take (ds.length + ps.length)).drop ds.length = ps := by
        rw [List.drop_take, List.drop_left, Nat.add_sub_cancel_left, hu, List.take_left]
      rw [e1, e2]
      simp
  · have hw : whole = 0 := by rw [← h5]; rfl
    subst hw
    have hd48 := whole_zero hds
    subst hd48
    rcases hT with ⟨hf, _⟩ | ⟨hf, ps, hp, rfl⟩
    · exact absurd ⟨rfl, hf⟩ hpos
    · have hu := places_unique hp h1 h2 h3
      have hp1 := hp.2.1
      have hp2 := hp.2.2.1
      obtain ⟨z, e, hs⟩ := strip_split f16
      obtain ⟨V, hVd⟩ : ∃ V, V = strip f16 := ⟨_, rfl⟩
      rw [← hVd] at e hs hK ⊢
      have hVl : V.length + z = 16 := by
        have := congrArg List.length e
        simp [h2] at this
        omega
      have hzp : z < ps.length := by
        rcases Nat.lt_or_ge z ps.length with h | h
        · exact h
        · exfalso
          apply hp.2.2.2.2
          have a1 : f16.getD (ps.length - 1) 0 = ps.getD (ps.length - 1) 0 := by rw [hu, getD_app_l _ (by omega)]
          rw [← a1, e, getD_app_l _ (by simp; omega), getD_rep (by omega)]
      have hg : ∀ j, V.getD j 0 = f16.getD (z + j) 0 := by
        intro j
        rw [e, getD_app_r _ (by simp)]
        simp
      have hKe : K = ps.length - z := by
        refine Trim.unique hK ⟨by omega, by omega, ?_, fun j hj1 hj2 => ?_⟩
        · rw [hg, hu, getD_app_l _ (by omega), show z + (ps.length - z - 1) = ps.length - 1 by omega]
          exact hp.2.2.2.2
        · rw [hg, hu, getD_app_r _ (by omega), getD_rep (by omega)]
      have := text_low neg (K := K) hVl (by omega)
      rw [show (-((16 : Nat) : Int)) = -16 by omega] at this
      rw [this]
      have e3 : ps = List.replicate z 48 ++ V.take K := by
        have a1 : f16.take ps.length = ps := by rw [hu, List.take_left]
        rw [← a1, e, List.take_append, List.take_of_length_le (by simp; omega), hKe]
        simp
      rw [e3]
      simp
end Go.Proofs.Qxb6602909a
