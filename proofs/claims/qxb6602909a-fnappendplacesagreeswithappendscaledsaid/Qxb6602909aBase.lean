/-
  WHAT THE WALKS OF THIS SEAT SHARE: a slice of bytes that is read ('Row'); a slice of bytes that is appended to ('Own'), and the one law of append for it.
-/
import Derived.Test.Qxb6602909aRows
import Derived.WalkKit
import Derived.WalkSpells
import Derived.WalkLawsBesides
import Derived.BigQuiet
namespace Go.Proofs.Qxb6602909a
open Go.RowKit

theorem Try.info5 : (Try.prog.info? 5).map (fun i => (i.zero, i.size, i.bytes)) = some (some (.int .u8 0), 1, 1) := by kernel_rfl

/-- The address leads to the bytes L (of an empty slice's address nothing is known). -/
def Row (w : World) (a : Option Addr) (L : List Int) : Prop :=
  L = [] ∨ ∃ b off, a = some ⟨b, off, none⟩ ∧ b < w.heap.size ∧ ∀ j, j < L.length → w.cell? ⟨b, off + j, none⟩ = some (.int .u8 (L.getD j 0))

theorem Row.mono {w w' : World} {a : Option Addr} {L : List Int} (h : Row w a L) (hb : Below w.heap.size w w') : Row w' a L := by
  rcases h with h | ⟨b, off, ha, hlt, hc⟩
  · exact Or.inl h
  · exact Or.inr ⟨b, off, ha, Nat.lt_of_lt_of_le hlt hb.size, fun j hj => (hb.cell (p := ⟨b, off + j, none⟩) hlt).trans (hc j hj)⟩

theorem Row.at {w : World} {a : Option Addr} {L : List Int} (h : Row w a L) (hl : 0 < L.length) : ∃ b off, a = some ⟨b, off, none⟩ ∧ b < w.heap.size ∧ ∀ j, j < L.length → w.cell? ⟨b, off + j, none⟩ = some (.int .u8 (L.getD j 0)) := by
  rcases h with h | h
  · simp [h] at hl
  · exact h

/-- The slice v holds the bytes L and may be appended to: a full one of below block B (the caller's), or one of the call's own from block B on. -/
def Own (B : Nat) (w : World) (v : Value) (L : List Int) : Prop :=
  (∃ a, v = .slice a L.length L.length ∧ (a = none → L = []) ∧ (∀ ad, a = some ad → ad.block < B) ∧ (L = [] ∨ ∃ b off, a = some ⟨b, off, none⟩ ∧ b < B ∧ ∀ j, j < L.length → w.cell? ⟨b, off + j, none⟩ = some (.int .u8 (L.getD j 0)))) ∨
  w.ownsRow B 5 1 v L.length (L.map (Value.int .u8))

theorem Own.of_full {w : World} {a : Option Addr} {L : List Int} (h : Row w a L) (hn : a = none → L = []) (hb : ∀ ad, a = some ad → ad.block < w.heap.size) : Own w.heap.size w (.slice a L.length L.length) L :=
  Or.inl ⟨a, rfl, hn, hb, h⟩

/-- Its block is one that is there. -/
theorem Own.lt {B : Nat} {w : World} {v : Value} {L : List Int} (h : Own B w v L) (hB : B ≤ w.heap.size) : ∀ k, v.ownBlock = some k → k < w.heap.size := by
  intro k hk
  rcases h with ⟨a, hv, hn, hlt, hc⟩ | h
  · subst hv
    cases a with
    | none => simp [Value.ownBlock] at hk
    | some ad =>
      simp [Value.ownBlock] at hk
      subst hk
      exact Nat.lt_of_lt_of_le (hlt ad rfl) hB
  · exact (h.lt k hk).2

/-- Nothing that was there has turned: it is owned as before. -/
theorem Own.mono {B : Nat} {w w' : World} {v : Value} {L : List Int} (h : Own B w v L) (hB : B ≤ w.heap.size) (hb : Below w.heap.size w w') : Own B w' v L := by
  rcases h with ⟨a, hv, hn, hbl, hc⟩ | h
  · refine Or.inl ⟨a, hv, hn, hbl, hc.imp id ?_⟩
    rintro ⟨b, off, ha, hlt, hc⟩
    exact ⟨b, off, ha, hlt, fun j hj => (hb.cell (p := ⟨b, off + j, none⟩) (Nat.lt_of_lt_of_le hlt hB)).trans (hc j hj)⟩
  · refine Or.inr ⟨h.1, ?_⟩
    rcases h.2 with h2 | ⟨g, cap, cur, hv, hg, hh, r⟩
    · exact Or.inl h2
    · exact Or.inr ⟨g, cap, cur, hv, hg, by rw [hb.block g (lt_of_block hh)]; exact hh, r⟩

/-- What it is, when read. -/
theorem Own.shape {B : Nat} {w : World} {v : Value} {L : List Int} (h : Own B w v L) (hB : B ≤ w.heap.size) : ∃ a c, v = .slice a L.length c ∧ L.length ≤ c ∧ (a = none → L = []) ∧ Row w a L := by
  rcases h with ⟨a, hv, hn, _, hc⟩ | h
  · refine ⟨a, _, hv, Nat.le_refl _, hn, hc.imp id ?_⟩
    rintro ⟨b, off, ha, hlt, hc⟩
    exact ⟨b, off, ha, Nat.lt_of_lt_of_le hlt hB, hc⟩
  · rcases h.2 with ⟨hv, hn⟩ | ⟨g, cap, cur, hv, hg, hh, hle, r⟩
    · have h0 : L = [] := List.eq_nil_of_length_eq_zero hn
      exact ⟨none, 0, by rw [hv, hn], by omega, fun _ => h0, Or.inl h0⟩
    · refine ⟨_, cap, hv, hle, (fun h => by cases h), Or.inr ⟨g, 0, rfl, lt_of_block hh, fun j hj => ?_⟩⟩
      have := h.cells (g := g) (by rw [hv]; rfl) j (.int .u8 (L.getD j 0)) (by simp [hj])
      rw [Addr.add_lit] at this
      exact this

/-- THE LAW OF append, whatever v: at least one byte goes over. -/
theorem wpList_append_Own (w : World) {ops : Array Oper} {rest : List Oper} {o : Oper} {a : Act} {Q : Exit → Act → World → Prop}
    (hg : o.guard = none) (s x : Operand) (hop : o.op = Op.call { callee := Callee.builtin Builtin.append, args := #[s, x], argTypes := #[22, 22] })
    (B : Nat) (hB : B ≤ w.heap.size) (v : Value) (L : List Int) (hs : a.eval s = v) (hown : Own B w v L)
    (ad : Addr) (m c : Nat) (news : List Int) (hx : a.eval x = .slice (some ad) m c) (hn : news.length = m) (hpos : 0 < m)
    (hc : ∀ j u, (news.map (Value.int .u8))[j]? = some u → w.cell? (ad.add j) = some u) (hbd : L.length + m ≤ 1000000000)
    (hK : ∀ v' w', Own B w' v' (L ++ news) → Below B w w' → w.grownBy w' v.ownBlock → wpList Try.prog ops Q rest (a.put o.dst v') w') :
    wpList Try.prog ops Q (o :: rest) a w := by
  obtain ⟨i0, hi, hz0, hz1, hz2⟩ := info_parts Try.info5
  subst hn
  rcases hown with ⟨ao, rfl, hnone, _, hcells⟩ | hown
  · refine wpList_append_grows w hg s x 22 hop 5 i0 (.int .u8 0) 1 1 Try.underlying22 hi hz0 hz1 hz2 rfl (by decide) ao L.length L.length (L.map (Value.int .u8)) hs (fun h => by have := hnone h; simp [this]) (by simp) ?_ ad news.length c (news.map (Value.int .u8)) hx (by simp) hc (ints_oneCell _ _) (by omega) (by unfold maxLen; omega) (by omega) ?_
    · intro b hb j u hu
      rcases hcells with h0 | ⟨g, off, ha, _, hcc⟩
      · simp [h0] at hu
      · rw [ha] at hb
        obtain rfl := Option.some.inj hb
        rw [List.getElem?_map] at hu
        obtain ⟨n, hn, rfl⟩ := Option.map_eq_some_iff.1 hu
        have hjl : j < L.length := (List.getElem?_eq_some_iff.1 hn).1
        rw [Addr.add_lit, hcc j hjl]
        simp [List.getD_eq_getElem?_getD, hn]
    · intro v' w' ho hgr
      refine hK v' w' (Or.inr ?_) ((Below.refl _ _).grown hgr hB (fun k hk => by cases hk)) ⟨hgr.os, hgr.tape, hgr.output, hgr.size, fun k hk _ => hgr.block k hk (by simp)⟩
      rw [← List.map_append, ← List.length_append] at ho
      exact ⟨ho.1, ho.2.imp id (fun ⟨g, cap, cur, hv, hgB, r⟩ => ⟨g, cap, cur, hv, Nat.le_trans hB hgB, r⟩)⟩
  · refine wpList_append_own w hg s x 22 hop B 5 i0 (.int .u8 0) 1 1 Try.underlying22 hi hz0 hz1 hz2 rfl (by decide) v L.length (L.map (Value.int .u8)) hs hown ad news.length c (news.map (Value.int .u8)) hx (by simp) hc (ints_oneCell _ _) (by unfold maxLen; omega) (by omega) hB ?_
    intro v' w' ho hgr _
    refine hK v' w' (Or.inr ?_) ((Below.refl _ _).grown hgr hB (fun k hk => (hown.lt k hk).1)) hgr
    rw [← List.map_append, ← List.length_append] at ho
    exact ho

/-- A block of bytes, whole. -/
def Buf (wr : World) (B : Nat) (t : TypeId) (A : List Int) : Prop := wr.heap[B]? = some (.cells (A.map (Value.int .u8)).toArray t (0, 0))

theorem Buf.cell {wr : World} {B : Nat} {t : TypeId} {A : List Int} (h : Buf wr B t A) {j : Nat} (hj : j < A.length) : wr.cell? ⟨B, j, none⟩ = some (.int .u8 (A.getD j 0)) := by
  rw [cell_of_row wr B j _ t (0, 0) h]
  simp [hj]
theorem Buf.free {wr : World} {B : Nat} {t : TypeId} {A : List Int} (h : Buf wr B t A) (j : Nat) : wr.frozen? ⟨B, j, none⟩ = false := frozen_of_row wr B j _ t h
theorem Buf.set {wr : World} {B : Nat} {t : TypeId} {A : List Int} (h : Buf wr B t A) (j : Nat) (c : Int) : Buf (wr.setCell ⟨B, j, none⟩ (.int .u8 c)) B t (A.set j c) := by
  unfold Buf
  rw [heap_setCell_same wr B j _ t _ h]
  simp
theorem Buf.lt {wr : World} {B : Nat} {t : TypeId} {A : List Int} (h : Buf wr B t A) : B < wr.heap.size := lt_of_block h
theorem Buf.keep {wr w' : World} {B : Nat} {t : TypeId} {A : List Int} (h : Buf wr B t A) (hb : w'.heap[B]? = wr.heap[B]?) : Buf w' B t A := hb.trans h

theorem drop_set_self (A : List Int) (J : Nat) (c : Int) (h : J < A.length) : (A.set J c).drop J = c :: A.drop (J + 1) := by
  rw [List.drop_eq_getElem_cons (by simpa using h)]
  simp [List.drop_set_of_lt]
end Go.Proofs.Qxb6602909a
