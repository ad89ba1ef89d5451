/-
  THE PROOF OF 'Rows.FnNumberExponentMatchesDigitModelSaid': the shell that the skeleton tool wrote, its walk filled.
-/
import Derived.Test.Qxb6602644aModelWalk
import Derived.WalkKit
import Derived.ProofKit
import Derived.OpenShut
import Derived.ShutString
import Derived.ChangeOld
import Derived.Below
namespace Go.Proofs.Qxb6602644a.fnNumberExponentMatchesDigitModel
open Go.ChangeShapes Go.WideShapes Go.ChangeAt Go.RowKit
open Go.ChangeMaps (open_string shut_string)
set_option linter.unusedVariables false

theorem own : ownKnob Try.prog.godebug = none := by kernel_rfl
theorem laidOut : laidOutB Try.prog = true := by kernel_rfl

/-- WHAT THE WALK IS TOLD OF A SLICE OF INTEGERS THAT CAME IN: it is nil; or it leads to a row of 'cap' cells, the numbers 'zs' (the first 'len' are its elements, the rest its spare room), each fitting its kind. -/
def IsRow (k : IntKind) (w : World) (a : Option Addr) (len cap : Nat) (zs : List Int) : Prop :=
  (a = none ∧ len = 0 ∧ cap = 0 ∧ zs = []) ∨
  ∃ x, a = some x ∧ len ≤ cap ∧ cap ≤ maxLen ∧ zs.length = cap ∧ (∀ i, i < zs.length → w.cell? (x.add i) = some (.int k (zs.getD i 0))) ∧ ∀ n ∈ zs, (Lit.int k n).wf = true

theorem model_not (b off cap : Nat) (T : List Int) (w : World) (hle : T.length ≤ cap) (hcap : cap ≤ 9223372036854775807) (hlen : T.length ≤ 1048576) (hne : 0 < T.length) (hb : ∀ j, 0 ≤ T.getD j 0 ∧ T.getD j 0 ≤ 255)
    (hcell : ∀ j, j < T.length → w.cell? ⟨b, off + j, none⟩ = some (.int .u8 (T.getD j 0))) (hE : ¬ ExpText T) :
    Calls Try.prog 6 #[.slice (some ⟨b, off, none⟩) T.length cap] w fun e w' => e = .returned (.bool true) ∧ Below w.heap.size w w' := by
  have HISE := isExp_any b off cap T w hle hcap hne hb hcell
  have hn20 : ¬ (1048576 : Int) < (T.length : Int) := by omega
  clear hcell hb
  go_enter Try.func6, Try.ntmps6
  go_wp2_with fail
  refine (bytes_ok _ _ _ _ hlen).mono ?_
  rintro e w' ⟨rfl, rfl⟩
  go_wp2_with fail
  refine HISE.mono ?_
  rintro e w' ⟨r, rfl, rfl, hr⟩
  cases r with
  | true => exact absurd (hr rfl) hE
  | false =>
    go_wp2
    go_ret
    exact ⟨rfl, Below.refl _ _⟩

theorem walk (a0 : Option Addr) (len0 cap0 : Nat) (z0 : List Int) (w : World) (w0 : IsRow .u8 w a0 len0 cap0 z0) :
    Calls Try.prog 6 #[.slice a0 len0 cap0] w fun e w' => e = .returned (.bool true) ∧ Below w.heap.size w w' := by
  rcases w0 with ⟨rfl, rfl, rfl, rfl⟩ | ⟨x, rfl, hl, hm, hz, hcell, hwz⟩
  · exact model_empty _ _ w
  · unfold maxLen at hm
    by_cases h0 : len0 = 0
    · subst h0
      exact model_empty _ _ w
    · by_cases hbig : 1048576 < len0
      · exact model_long _ _ _ w hbig (by omega)
      · obtain ⟨b, off, spot⟩ := x
        have hc := hcell 0 (by omega)
        have hspot : spot = none := by simpa [Addr.add] using World.cell?_spot hc
        subst hspot
        obtain ⟨T, hT⟩ : ∃ T, T = z0.take len0 := ⟨_, rfl⟩
        have hTl : len0 = T.length := by rw [hT]; simp; omega
        have hTg : ∀ j, j < T.length → T.getD j 0 = z0.getD j 0 := by
          intro j hj
          rw [hT, List.getD_eq_getElem?_getD, List.getElem?_take, if_pos (by omega), List.getD_eq_getElem?_getD]
        have hcT : ∀ j, j < T.length → w.cell? ⟨b, off + j, none⟩ = some (.int .u8 (T.getD j 0)) := by
          intro j hj
          have := hcell j (by omega)
          rw [Addr.add_lit] at this
          rw [this, hTg j hj]
        have hbT : ∀ j, 0 ≤ T.getD j 0 ∧ T.getD j 0 ≤ 255 := by
          intro j
          by_cases hj : j < T.length
          · have hj' : j < z0.length := by omega
            rw [hTg j hj]
            have hb8 := bounds_u8 (hwz (z0.getD j 0) (by simp [hj']))
            omega
          · simp [List.getD_eq_getElem?_getD, List.getElem?_eq_none (show T.length ≤ j by omega)]
        subst hTl
        clear hT hTg hcell hc
        by_cases hE : ExpText T
        · obtain ⟨ds, hd, hdp, rfl | rfl | rfl⟩ := hE
          · exact model_plain b off cap0 _ w hl (by omega) (by omega) hd hdp hcT
          · exact model_minus b off cap0 ds w hl (by omega) (by omega) hd hdp hcT
          · exact model_plus b off cap0 ds w hl (by omega) (by omega) hd hdp hcT
        · exact model_not b off cap0 T w hl (by omega) (by omega) (by omega) hbT hcT hE

/-! ### THE ROW's STEP -/
set_option maxRecDepth 100000 in
theorem lifted (os : Os) (started : os.Started) (H : Type) (enc : TypeId × Value → H) :
    ReturnsInHanded {} Try.checked os 6 .any (Rows.fnNumberExponentMatchesDigitModelSpec.pre6 enc Try.prog Try.f6 Rows.fnNumberExponentMatchesDigitModelRow.domain false) (Rows.fnNumberExponentMatchesDigitModelSpec.post enc Try.prog Try.f6 false true false false) := by
  refine returnsInHanded_of_change (C := Try.checked) own started (by kernel_rfl) Try.func6
    (ChangeSpec.witness6 (enc := enc) (C := Try.checked) false ⟨#[], #[.slice none 0 0], []⟩ 8 (by kernel_rfl) (by kernel_rfl) (by kernel_rfl) (by kernel_rfl)) ?_
  intro W base args ds gs before hval0 hW hcnd _
  have hval : ∀ (j : Nat) t v, Try.f6.params[j]? = some t → args[j]? = some v → Value.okWide Try.prog W .any base t v := hval0
  have hW' := hW
  obtain ⟨p, q, hA0, hV, rfl, hfz, hnd⟩ := hW
  have hA : DataW.TrodAll enc Try.prog W 0 (fun _ => true) true Try.f6.params.toList args.toList ds p := hA0
  rw [Try.params6] at hA hval
  obtain ⟨v0, vs0, d0, ds0, p0, q0, hargs, rfl, rfl, h0, r0⟩ := trodAll_cons hA
  obtain ⟨rfl, rfl, rfl⟩ := trodAll_nil r0
  obtain rfl : args = #[v0] := by cases args; simp_all
  obtain ⟨rfl, rfl⟩ := trodVars_none hV
  obtain ⟨a0, len0, cap0, rfl⟩ := okWide_slice Try.underlying25 (hval 0 25 v0 rfl rfl)
  have k0 := h0
  have lt0 : ∀ x ∈ p0, x.block < W.heap.size := by obtain ⟨m, hm⟩ := k0; exact DataW.trod_lt m _ _ _ hm
  obtain ⟨z0, w0⟩ : ∃ zs, IsRow .u8 W a0 len0 cap0 zs := by
    obtain ⟨fuel, hf⟩ := h0
    rcases open_ints Try.underlying25 Try.underlying5 (by kernel_rfl) hf with ⟨hcs, _⟩ | ⟨x, l, c, zs, hcs, _, hl, hm, hz, _, hcell, hwz⟩
    · simp [Value.cells] at hcs
      obtain ⟨rfl, rfl, rfl⟩ := hcs
      exact ⟨[], .inl ⟨rfl, rfl, rfl, rfl⟩⟩
    · simp [Value.cells] at hcs
      obtain ⟨rfl, rfl, rfl⟩ := hcs
      exact ⟨zs, .inr ⟨_, rfl, hl, hm, by simpa using hz, hcell, hwz⟩⟩
  clear hA0 hval0
  refine (walk a0 len0 cap0 z0 W w0).mono fun e W' ⟨he, bel⟩ => ?_
  subst he
  exact ⟨_, rfl, _, _, _, [], _, [], hW', trodAll_mk1 (shut_bool Try.underlying4 _), (trodAll_cons_mk (Below.trod laidOut (by kernel_rfl) (of_decide_eq_true (by kernel_rfl)) k0 bel lt0) trodAll_mk0), rfl, bel.frame _, fun h => by cases h⟩

theorem over : Rows.fnNumberExponentMatchesDigitModelRow.holds Try.pinned (OpenSpec.ofChange Rows.fnNumberExponentMatchesDigitModelSpec) :=
  OpenClaim.holds_of_wide 6 Try.f6 rfl rfl rfl rfl rfl rfl rfl ⟨rfl, rfl, rfl, rfl, rfl⟩ rfl rfl rfl rfl rfl (by kernel_rfl) Try.func6 (by kernel_rfl)
    (of_decide_eq_true (by kernel_rfl)) (by unfold Func.isWrapper; first | (rw [if_pos (by decide +kernel)]; kernel_rfl) | (rw [if_neg (by decide +kernel)]; exact ⟨rfl, rfl⟩))
    (fun os started H enc _ => lifted os started H enc)

/-- THE STATEMENT -/
theorem proved : Rows.FnNumberExponentMatchesDigitModelSaid := over
#print axioms proved
end Go.Proofs.Qxb6602644a.fnNumberExponentMatchesDigitModel
