/-
  THE PROOF OF 'Rows.FnIsUUIDAcceptsEveryFormattedUUIDSaid'. The frame after the skeleton tool's frame for slices ('Below'); the array parameter opened by 'DataW.trod_array'.
-/
import Derived.Test.Qxb6602644aUuidWalk
import Derived.WalkKit
import Derived.ProofKit
import Derived.OpenShut
import Derived.ShutString
import Derived.ChangeOld
import Derived.Below
namespace Go.Proofs.Qxb6602644a.fnIsUUIDAcceptsEveryFormattedUUID
open Go.ChangeShapes Go.WideShapes Go.ChangeAt Go.RowKit
set_option linter.unusedVariables false

theorem own : ownKnob Try.prog.godebug = none := by kernel_rfl
theorem laidOut : laidOutB Try.prog = true := by kernel_rfl
theorem cells23 : Try.prog.cellsOf 23 = 16 := by kernel_rfl
theorem cells5 : Try.prog.cellsOf 5 = 1 := by kernel_rfl

/-- An array of bytes by value: sixteen numbers. -/
theorem open_bytes16 {H : Type} {enc : TypeId × Value → H} {W : World} {base : Nat} {v : Value} {d : DataW H} {ps : List MemPlace}
    (hv : Value.okWide Try.prog W .any base 23 v) (h : DataW.Trod enc Try.prog W 0 (fun _ => true) true 23 v d ps) :
    ∃ zs : List Int, v = .agg (zs.map (Value.int .u8)).toArray ∧ zs.length = 16 ∧ ∀ j, 0 ≤ zs.getD j 0 ∧ zs.getD j 0 ≤ 255 := by
  obtain ⟨cs, rfl, hsz, _⟩ : ∃ cs, v = .agg cs ∧ cs.size = Try.prog.cellsOf 23 ∧ Row.okWide Try.prog W .any base 23 cs := by
    simpa [Value.okWide, Try.underlying23] using hv
  rw [cells23] at hsz
  obtain ⟨l⟩ := cs
  obtain ⟨fuel, hf⟩ := h
  obtain ⟨xs, m, _, hx, _, hl, hel⟩ := DataW.trod_array Try.underlying23 hf
  have hl16 : l.length = 16 := by simpa using hsz
  have hnum : ∀ i, i < 16 → ∃ n : Int, l[i]? = some (.int .u8 n) ∧ (Lit.int .u8 n).wf = true := by
    intro i hi
    have h1 := hel i hi
    rw [cells5] at h1
    have hxi : xs[i]? = some xs[i] := by simp
    rw [hxi] at h1
    obtain ⟨n, e, _, wn⟩ := DataW.trod_int Try.underlying5 h1
    refine ⟨n, ?_, wn⟩
    simp [Value.cells] at e
    have e0 : (List.take 1 (List.drop i l))[0]? = some (.int .u8 n) := by rw [e]; rfl
    simpa [List.getElem?_take, List.getElem?_drop] using e0
  refine ⟨l.map (fun v => match v with | .int _ n => n | _ => 0), ?_, by simp [hl16], fun j => ?_⟩
  · congr 1
    apply Array.ext
    · simp
    · intro i h1 h2
      have hi : i < 16 := by simp [hl16] at h1; exact h1
      obtain ⟨n, e, _⟩ := hnum i hi
      have e' : l[i]'(by omega) = .int .u8 n := by
        rw [List.getElem?_eq_getElem (by omega)] at e
        exact Option.some.inj e
      simp [e']
  · by_cases hj : j < 16
    · obtain ⟨n, e, wn⟩ := hnum j hj
      have e' : l[j]'(by omega) = .int .u8 n := by
        rw [List.getElem?_eq_getElem (by omega)] at e
        exact Option.some.inj e
      have hb := bounds_u8 wn
      simp [List.getD_eq_getElem?_getD, List.getElem?_map, e]
      omega
    · rw [List.getD_eq_getElem?_getD, List.getElem?_eq_none (by simp; omega)]
      simp

theorem walk (z : Array Value) (zs : List Int) (a1 : Int) (w : World) (hz : z = (zs.map (Value.int .u8)).toArray) (hl : zs.length = 16) (hzb : ∀ j, 0 ≤ zs.getD j 0 ∧ zs.getD j 0 ≤ 255) (w1 : (Lit.int .u32 a1).wf = true) :
    Calls Try.prog 4 #[.agg z, .int .u32 a1] w fun e w' => e = .returned (.bool true) ∧ Below w.heap.size w w' :=
  uuid_walk z a1 zs w hz hl hzb (by have := bounds_u32 w1; omega)

set_option maxRecDepth 100000 in
theorem lifted (os : Os) (started : os.Started) (H : Type) (enc : TypeId × Value → H) :
    ReturnsInHanded {} Try.checked os 4 .any (Rows.fnIsUUIDAcceptsEveryFormattedUUIDSpec.pre6 enc Try.prog Try.f4 Rows.fnIsUUIDAcceptsEveryFormattedUUIDRow.domain false) (Rows.fnIsUUIDAcceptsEveryFormattedUUIDSpec.post enc Try.prog Try.f4 false true false false) := by
  refine returnsInHanded_of_change (C := Try.checked) own started (by kernel_rfl) Try.func4
    (ChangeSpec.witness6 (enc := enc) (C := Try.checked) false ⟨#[], #[.agg #[.int .u8 0, .int .u8 0, .int .u8 0, .int .u8 0, .int .u8 0, .int .u8 0, .int .u8 0, .int .u8 0, .int .u8 0, .int .u8 0, .int .u8 0, .int .u8 0, .int .u8 0, .int .u8 0, .int .u8 0, .int .u8 0], .int .u32 0], []⟩ 8 (by kernel_rfl) (by kernel_rfl) (by kernel_rfl) (by kernel_rfl)) ?_
  intro W base args ds gs before hval0 hW hcnd _
  have hval : ∀ (j : Nat) t v, Try.f4.params[j]? = some t → args[j]? = some v → Value.okWide Try.prog W .any base t v := hval0
  have hW' := hW
  obtain ⟨p, q, hA0, hV, rfl, hfz, hnd⟩ := hW
  have hA : DataW.TrodAll enc Try.prog W 0 (fun _ => true) true Try.f4.params.toList args.toList ds p := hA0
  rw [Try.params4] at hA hval
  obtain ⟨v0, vs0, d0, ds0, p0, q0, hargs, rfl, rfl, h0, r0⟩ := trodAll_cons hA
  obtain ⟨v1, vs1, d1, ds1, p1, q1, rfl, rfl, rfl, h1, r1⟩ := trodAll_cons r0
  obtain ⟨rfl, rfl, rfl⟩ := trodAll_nil r1
  obtain rfl : args = #[v0, v1] := by cases args; simp_all
  obtain ⟨rfl, rfl⟩ := trodVars_none hV
  have k0 := h0
  have lt0 : ∀ x ∈ p0, x.block < W.heap.size := by obtain ⟨m, hm⟩ := k0; exact DataW.trod_lt m _ _ _ hm
  obtain ⟨zs, hv0, hl, hzb⟩ := open_bytes16 (hval 0 23 v0 rfl rfl) h0
  obtain ⟨z, hz⟩ : ∃ z, z = (zs.map (Value.int .u8)).toArray := ⟨_, rfl⟩
  rw [← hz] at hv0
  subst hv0
  obtain ⟨a1, rfl, rfl, rfl, w1⟩ := open_int Try.underlying24 (hval 1 24 v1 rfl rfl) h1
  clear hA0 hval0
  refine (walk z zs a1 W hz hl hzb w1).mono fun e W' ⟨he, bel⟩ => ?_
  subst he
  exact ⟨_, rfl, _, _, _, [], _, [], hW', trodAll_mk1 (shut_bool Try.underlying4 _), (trodAll_cons_mk (Below.trod laidOut (by kernel_rfl) (of_decide_eq_true (by kernel_rfl)) k0 bel lt0) (trodAll_cons_mk (shut_int Try.underlying24 w1) trodAll_mk0)), rfl, bel.frame _, fun h => by cases h⟩

theorem over : Rows.fnIsUUIDAcceptsEveryFormattedUUIDRow.holds Try.pinned (OpenSpec.ofChange Rows.fnIsUUIDAcceptsEveryFormattedUUIDSpec) :=
  OpenClaim.holds_of_wide 4 Try.f4 rfl rfl rfl rfl rfl rfl rfl ⟨rfl, rfl, rfl, rfl, rfl⟩ rfl rfl rfl rfl rfl (by kernel_rfl) Try.func4 (by kernel_rfl)
    (of_decide_eq_true (by kernel_rfl)) (by unfold Func.isWrapper; first | (rw [if_pos (by decide +kernel)]; kernel_rfl) | (rw [if_neg (by decide +kernel)]; exact ⟨rfl, rfl⟩))
    (fun os started H enc _ => lifted os started H enc)

/-- THE STATEMENT -/
theorem proved : Rows.FnIsUUIDAcceptsEveryFormattedUUIDSaid := over
#print axioms proved
end Go.Proofs.Qxb6602644a.fnIsUUIDAcceptsEveryFormattedUUID
