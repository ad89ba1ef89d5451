/-
  zzReplicaBase and replicaNames, by their contracts.
-/
import Derived.Test.Qxb6002792aBase
import Derived.Laws.AppendOwnNone
namespace Go.Proofs.Qxb6002792a
open Go.RowKit

/-- The names that stand alone: group, the aliases, replica. -/
def baseOf (g r : ByteArray) (L : List ByteArray) : List ByteArray := g :: (L ++ [r])
/-- A subdomain, a dot and a name. -/
def cat (s b : ByteArray) : ByteArray := s ++ { data := #[46] } ++ b
def namesOf (bs subs : List ByteArray) : List ByteArray := bs ++ subs.flatMap (fun s => bs.map (cat s))

theorem base_len (g r : ByteArray) (L : List ByteArray) : (baseOf g r L).length = L.length + 2 := by simp [baseOf]

theorem replicaBase_any (g r : ByteArray) (a : Option Addr) (cap : Nat) (L : List ByteArray) (p : Nat) (w : World) (hr : SRow w a L) (hl : L.length ≤ 1048576) (hp : p < L.length + 2) :
    Calls Try.prog 15 #[.string g, .string r, .slice a L.length cap, .int .i64 p] w fun e w' => e = .returned (.string ((baseOf g r L).getD p eS)) ∧ w = w' := by
  rcases Nat.eq_zero_or_pos p with h0 | h0
  · subst h0
    clear hr
    go_enter Try.func15, Try.ntmps15
    go_wp2
    go_ret
    exact ⟨rfl, rfl⟩
  · obtain ⟨q, rfl⟩ : ∃ q, p = q + 1 := ⟨p - 1, by omega⟩
    have hq0 : (((q + 1 : Nat) : Int) == 0) = false := by simp; omega
    by_cases hq : q < L.length
    · have e1 : (baseOf g r L).getD (q + 1) eS = L.getD q eS := by simp [baseOf, List.getD_eq_getElem?_getD, List.getElem?_append_left hq]
      rw [e1]
      obtain ⟨b, off, rfl, _, hc⟩ := hr.at (by omega)
      have hcq := hc q hq
      obtain ⟨x, hx⟩ : ∃ x, x = L.getD q eS := ⟨_, rfl⟩
      rw [← hx] at hcq
      rw [← hx]
      have hle : ((q + 1 : Nat) : Int) ≤ (L.length : Int) := by omega
      clear hr hc hx e1
      go_enter Try.func15, Try.ntmps15
      go_wp2
      go_ret
      exact ⟨rfl, rfl⟩
    · have hqe : q = L.length := by omega
      have e1 : (baseOf g r L).getD (q + 1) eS = r := by simp [baseOf, hqe]
      rw [e1]
      have hle : ¬ ((q + 1 : Nat) : Int) ≤ (L.length : Int) := by omega
      clear hr e1 hqe
      go_enter Try.func15, Try.ntmps15
      go_wp2
      go_ret
      exact ⟨rfl, rfl⟩

def NamesEnds (N : List ByteArray) (w : World) (e : Ending) (w' : World) : Prop :=
  ∃ g cap, e = .returned (.slice (some ⟨g, 0, none⟩) N.length cap) ∧ SOwn w.heap.size w' g cap N ∧ Below w.heap.size w w'

theorem srow_src {w : World} {ad : Addr} {L : List ByteArray} (h : SRow w (some ad) L) : ∀ j u, (L.map Value.string)[j]? = some u → w.cell? (ad.add j) = some u := by
  intro j u hu
  rw [List.getElem?_map] at hu
  obtain ⟨c, hc, rfl⟩ := Option.map_eq_some_iff.1 hu
  have hjl : j < L.length := (List.getElem?_eq_some_iff.1 hc).1
  obtain ⟨b, off, hb, _, hcell⟩ := h.at (by omega)
  obtain rfl := Option.some.inj hb
  rw [Addr.add_lit, hcell j hjl]
  simp [List.getD_eq_getElem?_getD, hc]

theorem one_newS_at (w : World) (x : ByteArray) (t : TypeId) (n : Nat) (h : n = w.heap.size) : ∀ j u, ([x].map Value.string)[j]? = some u → (w.alloc (.cells #[.string x] t)).cell? ((⟨n, 0, none⟩ : Addr).add j) = some u := by
  subst h
  exact one_newS w x t

theorem flat_snoc (bs subs : List ByteArray) (k : Nat) (hk : k < subs.length) : bs ++ (subs.take (k + 1)).flatMap (fun s => bs.map (cat s)) = bs ++ (subs.take k).flatMap (fun s => bs.map (cat s)) ++ bs.map (cat (subs.getD k eS)) := by
  rw [List.take_succ_eq_append_getElem hk, List.flatMap_append]
  simp only [List.flatMap_cons, List.flatMap_nil, List.append_nil, List.append_assoc, List.getD_eq_getElem?_getD, List.getElem?_eq_getElem hk, Option.getD_some]
theorem map_snoc (bs : List ByteArray) (f : ByteArray → ByteArray) (j : Nat) (hj : j < bs.length) : (bs.take (j + 1)).map f = (bs.take j).map f ++ [f (bs.getD j eS)] := by
  rw [List.take_succ_eq_append_getElem hj, List.map_append]
  simp only [List.map_cons, List.map_nil, List.getD_eq_getElem?_getD, List.getElem?_eq_getElem hj, Option.getD_some]
theorem getD_pre {A : List ByteArray} (B : List ByteArray) {j : Nat} (h : j < A.length) : (A ++ B).getD j eS = A.getD j eS := by
  simp [List.getD_eq_getElem?_getD, List.getElem?_append_left h]

/-- The rest of replicaNames behind the two appends: told once, for the world in which the first names stand. -/
theorem flat_len (bs subs : List ByteArray) : (subs.flatMap (fun s => bs.map (cat s))).length = subs.length * bs.length := by
  induction subs with
  | nil => simp
  | cons s subs ih => simp [ih, Nat.add_mul, Nat.add_comm]

set_option maxRecDepth 100000 in
set_option maxHeartbeats 4000000 in
theorem names_any (g0 r0 : ByteArray) (aA aS : Option Addr) (cS : Nat) (L S : List ByteArray) (w : World) (hrA : SRow w aA L) (hnA : aA = none → L = []) (hrS : SRow w aS S) (hl : L.length ≤ 4096) (hs : S.length ≤ 4096) (hn : (L.length + 2) * (1 + S.length) ≤ 1048576)
    (hb : ∀ x ∈ baseOf g0 r0 L, x.size ≤ 1048576) (hsb : ∀ x ∈ S, x.size ≤ 1048576) :
    Calls Try.prog 18 #[.string g0, .string r0, .slice aA L.length L.length, .slice aS S.length cS] w (NamesEnds (namesOf (baseOf g0 r0 L) S) w) := by
  obtain ⟨i0, hi, hz0, hz1, hz2⟩ := info_parts Try.info9
  cases aA with
  | none =>
    have h0 := hnA rfl
    subst h0
    go_enter Try.func18, Try.ntmps18
    go_wp2_with (first | (at_builtin; refine wpList_append_own_none rfl (.tmp 16) (.tmp 17) 28 rfl w.heap.size 9 i0 1 Try.underlying28 hi _ 1 [.string g0] rfl (SOwn.lit w w.heap.size (Nat.le_refl _) g0) rfl ?_) | (at_builtin; refine wpList_append_S _ rfl (.tmp 19) (.tmp 21) rfl w.heap.size (by simp; omega) w.heap.size 1 [g0] 1 rfl rfl ((SOwn.lit w w.heap.size (Nat.le_refl _) g0).alloc _) ⟨w.heap.size + 1, 0, none⟩ 1 1 [r0] rfl rfl (one_newS_at _ _ _ _ (by simp)) (by omega) ?_))
    intro g2 c2 w2 hown2 hbel2 _ _
    have hbw2 : Below w.heap.size w w2 := (((Below.refl _ _).alloc (Nat.le_refl _) _).alloc (by simp) _).trans hbel2
    obtain ⟨L, hL⟩ : ∃ L : List ByteArray, L = [] := ⟨_, rfl⟩
    rw [← hL] at hl hn hb ⊢
    have hLl : L.length = 0 := by rw [hL]; rfl
    have hown2 : SOwn w.heap.size w2 g2 c2 (baseOf g0 r0 L) := by rw [hL]; exact hown2
    have HL0 : Hid (L = []) := hL
    clear hL
    have hBw2 : w.heap.size ≤ w2.heap.size := hbw2.size
    obtain ⟨bs, hbs⟩ : ∃ bs, bs = baseOf g0 r0 L := ⟨_, rfl⟩
    have hown2' : SOwn w.heap.size w2 g2 c2 bs := by rw [hbs]; exact hown2
    have HBL : Hid (bs.length = L.length + 2) := (show _ = _ by rw [hbs]; exact base_len _ _ _)
    have HBS : Hid (∀ x ∈ bs, x.size ≤ 1048576) := by rw [hbs]; exact hb
    have HSB : Hid (∀ x ∈ S, x.size ≤ 1048576) := hsb
    have HNE : Hid (∀ e w', NamesEnds (namesOf bs S) w e w' → NamesEnds (namesOf (baseOf g0 r0 []) S) w e w') := by rw [hbs, HL0.out]; exact fun _ _ h => h
    obtain ⟨o, ho⟩ : ∃ o, o = 2 := ⟨_, rfl⟩
    have HO : Hid (o = bs.length) := (show _ = _ by rw [HBL.out, ho]; omega)
    have ho2 : 2 ≤ o := by rw [ho]; omega
    have ho3 : o ≤ 4098 := by rw [ho]; omega
    rw [← ho]
    obtain ⟨m, hm⟩ : ∃ m, m = S.length := ⟨_, rfl⟩
    have HM : Hid (m = S.length) := hm
    have HMO : Hid (o * (1 + m) ≤ 1048576) := (show _ ≤ _ by rw [HO.out, HBL.out, HM.out]; exact hn)
    rw [← hm] at hs
    simp only [← hm]
    clear hown2 hbs ho hm hn hb hsb hl
    go_wp2
    go_loopw [9, 27] (fun x i wr => ∃ (k : Nat) (T : List ByteArray) (t : Nat) (g cap : Nat), k ≤ m ∧ i = .int .i64 k ∧ x = .slice (some ⟨g, 0, none⟩) t cap ∧ Hid (t = T.length ∧ T = bs ++ (S.take k).flatMap (fun s => bs.map (cat s))) ∧ t ≤ 1048576 ∧ o ≤ t ∧ SOwn w.heap.size wr g cap T ∧ Below w.heap.size w wr) (fun _ i _ => m - (intOf i).toNat)
    case atStart => exact ⟨0, bs, o, g2, c2, Nat.zero_le _, rfl, rfl, ⟨HO.out, by simp⟩, by omega, Nat.le_refl _, hown2', hbw2⟩
    case round =>
      obtain ⟨k, T, t, g, cap, hk, rfl, rfl, HT, ht, hot, hownr, hbr⟩ := hrel
      clear hown2' hbw2
      obtain ⟨hcap, hBg, hgl⟩ := hownr.le
      have hcapt : t ≤ cap := by rw [HT.out.1]; exact hcap
      by_cases hlt : k < m
      · have hkS : k < S.length := by rw [← HM.out]; exact hlt
        obtain ⟨bq, oq, rfl, hbq, hcq⟩ := hrS.at (by omega)
        have hck := (hbr.cell (p := ⟨bq, oq + k, none⟩) hbq).trans (hcq k hkS)
        obtain ⟨x, hx⟩ : ∃ x, x = S.getD k eS := ⟨_, rfl⟩
        have hxs : x.size ≤ 1048576 := HSB.out x (by rw [hx]; simp [List.getD_eq_getElem?_getD, hkS])
        rw [← hx] at hck
        have HX : Hid (x = S.getD k eS) := hx
        have HG0 : Hid (∀ i, i < o → wr.cell? ⟨g, i, none⟩ = some (.string (bs.getD i eS))) := by
          intro i hi
          have hib : i < bs.length := by rw [← HO.out]; exact hi
          rw [hownr.cell (j := i) (by rw [← HT.out.1]; omega), HT.out.2, getD_pre _ hib]
        have HTl : Hid (t + o ≤ 1048576) := by
          have h1 := HT.out.1
          have h2 := congrArg List.length HT.out.2
          rw [List.length_append, flat_len, List.length_take, Nat.min_eq_left (by omega), ← HO.out] at h2
          have h3 : (k + 1) * o ≤ m * o := Nat.mul_le_mul_right _ hlt
          have h4 := HMO.out
          rw [Nat.mul_add, Nat.mul_comm o m] at h4
          rw [Nat.add_mul] at h3
          show _ ≤ _
          omega
        obtain ⟨w3, hw3⟩ : ∃ w3, w3 = wr := ⟨_, rfl⟩
        subst hw3
        have hcapne : ¬ cap = 0 := by omega
        clear hx hcq hcap
        go_wp2
        go_loopw [9, 35] (fun y i wr => ∃ (j : Nat) (U : List ByteArray) (u : Nat) (g' cap' : Nat), j ≤ o ∧ i = .int .i64 j ∧ y = .slice (some ⟨g', 0, none⟩) u cap' ∧ Hid (u = U.length ∧ U = T ++ (bs.take j).map (cat x)) ∧ u ≤ 1048576 ∧ Hid (u = t + j) ∧ SOwn w.heap.size wr g' cap' U ∧ Below w.heap.size w wr ∧ Hid (∀ i, i < o → wr.cell? ⟨g, i, none⟩ = some (.string (bs.getD i eS))) ∧ g < wr.heap.size) (fun _ i _ => o - (intOf i).toNat)
        case atStart => exact ⟨0, T, t, g, cap, Nat.zero_le _, rfl, rfl, ⟨HT.out.1, by simp⟩, ht, (show _ = _ by omega), hownr, hbr, HG0, hgl⟩
        case round =>
          obtain ⟨j, U, u, g', cap', hj, rfl, rfl, HU, hu, HUJ, hown4, hbr4, HG, hgl4⟩ := hrel
          clear hownr
          have hB4 : w.heap.size ≤ wr.heap.size := hbr4.size
          by_cases hjlt : j < o
          · have hcj := HG.out j hjlt
            have hjb : j < bs.length := by rw [← HO.out]; exact hjlt
            obtain ⟨y, hy⟩ : ∃ y, y = bs.getD j eS := ⟨_, rfl⟩
            have hys : y.size ≤ 1048576 := HBS.out y (by rw [hy]; simp [List.getD_eq_getElem?_getD, hjb])
            rw [← hy] at hcj
            have HY : Hid (y = bs.getD j eS) := hy
            have hu1 : u + 1 ≤ 1048576 := by have := HUJ.out; have := HTl.out; omega
            have hsz1 : ¬ 9223372036854775807 < x.size + 1 := by omega
            have hsz2 : ¬ 9223372036854775807 < x.size + 1 + y.size := by omega
            clear hy
            go_wp2_with (at_builtin; refine wpList_append_S _ rfl (.tmp 39) (.tmp 44) rfl w.heap.size (by simp; omega) g' cap' U u HU.out.1 rfl (hown4.alloc _) ⟨wr.heap.size, 0, none⟩ 1 1 [cat x y] rfl rfl (one_newS _ _ _) (by omega) ?_)
            intro g5 cap5 w5 hown5 hbel5 hkeep5 hblk5
            have hbw5 : Below w.heap.size w w5 := (hbr4.alloc hB4 _).trans hbel5
            have HG5 : Hid (∀ i, i < o → w5.cell? ⟨g, i, none⟩ = some (.string (bs.getD i eS))) := by
              intro i hi
              by_cases hgg : g = g'
              · subst hgg
                have hib : i < bs.length := by rw [← HO.out]; exact hi
                have hiT : i < T.length := by rw [← HT.out.1]; omega
                have hiU : i < U.length := by rw [HU.out.2]; simp; omega
                rw [hkeep5 i hiU]
                simp only [← List.getD_eq_getElem?_getD]
                rw [HU.out.2, getD_pre _ hiT, HT.out.2, getD_pre _ hib]
              · have hb5 := hblk5 g (by first | omega | (simp; omega)) hgg
                rw [World.cell?_of_block (a := ⟨g, i, none⟩) hb5, World.cell?_of_block (a := ⟨g, i, none⟩) (Below.heap_alloc _ _ _ hgl4)]
                exact HG.out i hi
            have HU5 : Hid (u + 1 = (U ++ [cat x y]).length ∧ U ++ [cat x y] = T ++ (bs.take (j + 1)).map (cat x)) := by
              refine ⟨by simp [HU.out.1], ?_⟩
              rw [map_snoc bs (cat x) j hjb, ← HY.out, HU.out.2, List.append_assoc]
            have hgl5 : g < w5.heap.size := Nat.lt_of_lt_of_le hgl4 (Nat.le_trans (by simp) hbel5.size)
            clear hkeep5 hblk5 hbel5
            go_wp2
            go_roundw
            case rel => exact ⟨j + 1, U ++ [cat x y], u + 1, g5, cap5, by omega, by go_num, rfl, HU5, hu1, (show _ = _ by have := HUJ.out; omega), hown5, hbw5, HG5, hgl5⟩
            case measure => simp [intOf]; omega
          · have hjo : j = o := by omega
            have HT2 : Hid (u = U.length ∧ U = bs ++ (S.take (k + 1)).flatMap (fun s => bs.map (cat s))) := by
              refine ⟨HU.out.1, ?_⟩
              rw [HU.out.2, List.take_of_length_le (by rw [← HO.out]; omega), flat_snoc bs S k hkS, ← HX.out, ← HT.out.2]
            go_wp2
            go_roundw
            case rel => exact ⟨k + 1, U, u, g', cap', by omega, by go_num, rfl, HT2, hu, by have := HUJ.out; omega, hown4, hbr4⟩
            case measure => simp [intOf]; omega
      · have hkm : k = m := by omega
        go_wp2
        go_ret
        refine HNE.out _ _ ⟨g, cap, ?_, ?_, hbr⟩
        · have e1 : (namesOf bs S).length = t := by
            rw [HT.out.1, HT.out.2, List.take_of_length_le (by rw [← HM.out]; omega)]
            rfl
          rw [e1]
          rfl
        · have e2 : namesOf bs S = T := by
            rw [HT.out.2, List.take_of_length_le (by rw [← HM.out]; omega)]
            rfl
          rw [e2]
          exact hownr
  | some ad =>
    go_enter Try.func18, Try.ntmps18
    go_wp2_with (at_builtin; refine wpList_append_S _ rfl (.tmp 16) (.tmp 17) rfl w.heap.size (by simp) w.heap.size 1 [g0] 1 rfl rfl (SOwn.lit w w.heap.size (Nat.le_refl _) g0) ad L.length L.length L rfl rfl (srow_src (hrA.mono ((Below.refl _ _).alloc (Nat.le_refl _) _))) (by omega) ?_)
    intro g1 c1 w1 hown1 hbel1 _ _
    have hbw1 : Below w.heap.size w w1 := ((Below.refl _ _).alloc (Nat.le_refl _) _).trans hbel1
    have hBw1 : w.heap.size ≤ w1.heap.size := hbw1.size
    go_wp2_with (at_builtin; refine wpList_append_S _ rfl (.tmp 19) (.tmp 21) rfl w.heap.size (by simp; omega) g1 c1 (g0 :: L) (1 + L.length) (by simp; omega) rfl (hown1.alloc _) ⟨w1.heap.size, 0, none⟩ 1 1 [r0] rfl rfl (one_newS _ _ _) (by omega) ?_)
    intro g2 c2 w2 hown2 hbel2 _ _
    have hbw2 : Below w.heap.size w w2 := (hbw1.alloc hBw1 _).trans hbel2
    clear hown1 hbel1 hbw1 hbel2
    have hBw2 : w.heap.size ≤ w2.heap.size := hbw2.size
    obtain ⟨bs, hbs⟩ : ∃ bs, bs = baseOf g0 r0 L := ⟨_, rfl⟩
    have hown2' : SOwn w.heap.size w2 g2 c2 bs := by rw [hbs]; exact hown2
    have HBL : Hid (bs.length = L.length + 2) := (show _ = _ by rw [hbs]; exact base_len _ _ _)
    have HBS : Hid (∀ x ∈ bs, x.size ≤ 1048576) := by rw [hbs]; exact hb
    have HSB : Hid (∀ x ∈ S, x.size ≤ 1048576) := hsb
    have HNE : Hid (∀ e w', NamesEnds (namesOf bs S) w e w' → NamesEnds (namesOf (baseOf g0 r0 L) S) w e w') := by rw [hbs]; exact fun _ _ h => h
    obtain ⟨o, ho⟩ : ∃ o, o = 1 + L.length + 1 := ⟨_, rfl⟩
    have HO : Hid (o = bs.length) := (show _ = _ by rw [HBL.out, ho]; omega)
    have ho2 : 2 ≤ o := by rw [ho]; omega
    have ho3 : o ≤ 4098 := by rw [ho]; omega
    rw [← ho]
    obtain ⟨m, hm⟩ : ∃ m, m = S.length := ⟨_, rfl⟩
    have HM : Hid (m = S.length) := hm
    have HMO : Hid (o * (1 + m) ≤ 1048576) := (show _ ≤ _ by rw [HO.out, HBL.out, HM.out]; exact hn)
    rw [← hm] at hs
    simp only [← hm]
    clear hown2 hbs ho hm hn hb hsb hl
    go_wp2
    go_loopw [9, 27] (fun x i wr => ∃ (k : Nat) (T : List ByteArray) (t : Nat) (g cap : Nat), k ≤ m ∧ i = .int .i64 k ∧ x = .slice (some ⟨g, 0, none⟩) t cap ∧ Hid (t = T.length ∧ T = bs ++ (S.take k).flatMap (fun s => bs.map (cat s))) ∧ t ≤ 1048576 ∧ o ≤ t ∧ SOwn w.heap.size wr g cap T ∧ Below w.heap.size w wr) (fun _ i _ => m - (intOf i).toNat)
    case atStart => exact ⟨0, bs, o, g2, c2, Nat.zero_le _, rfl, rfl, ⟨HO.out, by simp⟩, by omega, Nat.le_refl _, hown2', hbw2⟩
    case round =>
      obtain ⟨k, T, t, g, cap, hk, rfl, rfl, HT, ht, hot, hownr, hbr⟩ := hrel
      clear hown2' hbw2
      obtain ⟨hcap, hBg, hgl⟩ := hownr.le
      have hcapt : t ≤ cap := by rw [HT.out.1]; exact hcap
      by_cases hlt : k < m
      · have hkS : k < S.length := by rw [← HM.out]; exact hlt
        obtain ⟨bq, oq, rfl, hbq, hcq⟩ := hrS.at (by omega)
        have hck := (hbr.cell (p := ⟨bq, oq + k, none⟩) hbq).trans (hcq k hkS)
        obtain ⟨x, hx⟩ : ∃ x, x = S.getD k eS := ⟨_, rfl⟩
        have hxs : x.size ≤ 1048576 := HSB.out x (by rw [hx]; simp [List.getD_eq_getElem?_getD, hkS])
        rw [← hx] at hck
        have HX : Hid (x = S.getD k eS) := hx
        have HG0 : Hid (∀ i, i < o → wr.cell? ⟨g, i, none⟩ = some (.string (bs.getD i eS))) := by
          intro i hi
          have hib : i < bs.length := by rw [← HO.out]; exact hi
          rw [hownr.cell (j := i) (by rw [← HT.out.1]; omega), HT.out.2, getD_pre _ hib]
        have HTl : Hid (t + o ≤ 1048576) := by
          have h1 := HT.out.1
          have h2 := congrArg List.length HT.out.2
          rw [List.length_append, flat_len, List.length_take, Nat.min_eq_left (by omega), ← HO.out] at h2
          have h3 : (k + 1) * o ≤ m * o := Nat.mul_le_mul_right _ hlt
          have h4 := HMO.out
          rw [Nat.mul_add, Nat.mul_comm o m] at h4
          rw [Nat.add_mul] at h3
          show _ ≤ _
          omega
        obtain ⟨w3, hw3⟩ : ∃ w3, w3 = wr := ⟨_, rfl⟩
        subst hw3
        have hcapne : ¬ cap = 0 := by omega
        clear hx hcq hcap
        go_wp2
        go_loopw [9, 35] (fun y i wr => ∃ (j : Nat) (U : List ByteArray) (u : Nat) (g' cap' : Nat), j ≤ o ∧ i = .int .i64 j ∧ y = .slice (some ⟨g', 0, none⟩) u cap' ∧ Hid (u = U.length ∧ U = T ++ (bs.take j).map (cat x)) ∧ u ≤ 1048576 ∧ Hid (u = t + j) ∧ SOwn w.heap.size wr g' cap' U ∧ Below w.heap.size w wr ∧ Hid (∀ i, i < o → wr.cell? ⟨g, i, none⟩ = some (.string (bs.getD i eS))) ∧ g < wr.heap.size) (fun _ i _ => o - (intOf i).toNat)
        case atStart => exact ⟨0, T, t, g, cap, Nat.zero_le _, rfl, rfl, ⟨HT.out.1, by simp⟩, ht, (show _ = _ by omega), hownr, hbr, HG0, hgl⟩
        case round =>
          obtain ⟨j, U, u, g', cap', hj, rfl, rfl, HU, hu, HUJ, hown4, hbr4, HG, hgl4⟩ := hrel
          clear hownr
          have hB4 : w.heap.size ≤ wr.heap.size := hbr4.size
          by_cases hjlt : j < o
          · have hcj := HG.out j hjlt
            have hjb : j < bs.length := by rw [← HO.out]; exact hjlt
            obtain ⟨y, hy⟩ : ∃ y, y = bs.getD j eS := ⟨_, rfl⟩
            have hys : y.size ≤ 1048576 := HBS.out y (by rw [hy]; simp [List.getD_eq_getElem?_getD, hjb])
            rw [← hy] at hcj
            have HY : Hid (y = bs.getD j eS) := hy
            have hu1 : u + 1 ≤ 1048576 := by have := HUJ.out; have := HTl.out; omega
            have hsz1 : ¬ 9223372036854775807 < x.size + 1 := by omega
            have hsz2 : ¬ 9223372036854775807 < x.size + 1 + y.size := by omega
            clear hy
            go_wp2_with (at_builtin; refine wpList_append_S _ rfl (.tmp 39) (.tmp 44) rfl w.heap.size (by simp; omega) g' cap' U u HU.out.1 rfl (hown4.alloc _) ⟨wr.heap.size, 0, none⟩ 1 1 [cat x y] rfl rfl (one_newS _ _ _) (by omega) ?_)
            intro g5 cap5 w5 hown5 hbel5 hkeep5 hblk5
            have hbw5 : Below w.heap.size w w5 := (hbr4.alloc hB4 _).trans hbel5
            have HG5 : Hid (∀ i, i < o → w5.cell? ⟨g, i, none⟩ = some (.string (bs.getD i eS))) := by
              intro i hi
              by_cases hgg : g = g'
              · subst hgg
                have hib : i < bs.length := by rw [← HO.out]; exact hi
                have hiT : i < T.length := by rw [← HT.out.1]; omega
                have hiU : i < U.length := by rw [HU.out.2]; simp; omega
                rw [hkeep5 i hiU]
                simp only [← List.getD_eq_getElem?_getD]
                rw [HU.out.2, getD_pre _ hiT, HT.out.2, getD_pre _ hib]
              · have hb5 := hblk5 g (by first | omega | (simp; omega)) hgg
                rw [World.cell?_of_block (a := ⟨g, i, none⟩) hb5, World.cell?_of_block (a := ⟨g, i, none⟩) (Below.heap_alloc _ _ _ hgl4)]
                exact HG.out i hi
            have HU5 : Hid (u + 1 = (U ++ [cat x y]).length ∧ U ++ [cat x y] = T ++ (bs.take (j + 1)).map (cat x)) := by
              refine ⟨by simp [HU.out.1], ?_⟩
              rw [map_snoc bs (cat x) j hjb, ← HY.out, HU.out.2, List.append_assoc]
            have hgl5 : g < w5.heap.size := Nat.lt_of_lt_of_le hgl4 (Nat.le_trans (by simp) hbel5.size)
            clear hkeep5 hblk5 hbel5
            go_wp2
            go_roundw
            case rel => exact ⟨j + 1, U ++ [cat x y], u + 1, g5, cap5, by omega, by go_num, rfl, HU5, hu1, (show _ = _ by have := HUJ.out; omega), hown5, hbw5, HG5, hgl5⟩
            case measure => simp [intOf]; omega
          · have hjo : j = o := by omega
            have HT2 : Hid (u = U.length ∧ U = bs ++ (S.take (k + 1)).flatMap (fun s => bs.map (cat s))) := by
              refine ⟨HU.out.1, ?_⟩
              rw [HU.out.2, List.take_of_length_le (by rw [← HO.out]; omega), flat_snoc bs S k hkS, ← HX.out, ← HT.out.2]
            go_wp2
            go_roundw
            case rel => exact ⟨k + 1, U, u, g', cap', by omega, by go_num, rfl, HT2, hu, by have := HUJ.out; omega, hown4, hbr4⟩
            case measure => simp [intOf]; omega
      · have hkm : k = m := by omega
        go_wp2
        go_ret
        refine HNE.out _ _ ⟨g, cap, ?_, ?_, hbr⟩
        · have e1 : (namesOf bs S).length = t := by
            rw [HT.out.1, HT.out.2, List.take_of_length_le (by rw [← HM.out]; omega)]
            rfl
          rw [e1]
          rfl
        · have e2 : namesOf bs S = T := by
            rw [HT.out.2, List.take_of_length_le (by rw [← HM.out]; omega)]
            rfl
          rw [e2]
          exact hownr
end Go.Proofs.Qxb6002792a
