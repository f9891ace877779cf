import Derived.Test.YbulkcjpqFmtJoinF
import Derived.Test.YbulkcjpqFmtStampA
namespace Go.Proofs.YbulkcjpqFmt
open Go.ChangeShapes Go.WideShapes Go.ChangeAt Go.RowKit Go.Deep
set_option linter.unusedVariables false
set_option linter.unusedSimpArgs false

/-- What 'stamp' says of event i. -/
def StampSays (T : Tr) (K : Nat → Nat → Int) (i : Nat) (c : Nat → Int) : Prop :=
  (T.PF (T.PR i) ≤ T.SQ i ∧ c = fun _ => 0) ∨
  ((T.SQ i : Int) < T.PF (T.PR i) ∧ ∃ j, T.S (T.PR i) ≤ j ∧ j < T.S (T.PR i + 1) ∧ T.A j ≤ T.SQ i ∧ (∀ t, T.S (T.PR i) ≤ t → t < T.S (T.PR i + 1) → T.A t ≤ T.SQ i → T.A t ≤ T.A j) ∧
    c = if T.A j = T.SQ i then K j else fun q => if q = T.PR i then max (K j (T.PR i)) ((T.SQ i : Int) + 1) else K j q)

/-- The kept stamps. -/
def Kept (T : Tr) (K : Nat → Nat → Int) (w : World) : Prop :=
  ∀ j, j < T.L → StampIs w (.agg #[.slice (T.NA j) (T.N1 j) (T.N2 j), .slice (T.CA j) (T.C1 j) (T.C2 j)]) (K j) ∧ T.N1 j ≤ T.N2 j ∧ T.N2 j ≤ 9223372036854775807

theorem Kept.mono {T : Tr} {K : Nat → Nat → Int} {w w' : World} (h : Kept T K w) (hw : ∀ (a : Addr) (u : Value), w.cell? a = some u → w'.cell? a = some u) : Kept T K w' :=
  fun j hj => ⟨(h j hj).1.mono hw, (h j hj).2⟩

theorem zero_stamp (w : World) : StampIs w (.agg #[.slice none 0 0, .slice none 0 0]) (fun _ => 0) :=
  ⟨_, _, 0, fun _ => 0, rfl, ⟨by omega, fun i hi => by omega, fun i hi => by omega, fun i j h1 h2 => by omega, fun q hq h => absurd rfl h⟩, ⟨_, _, rfl, fun h => by omega⟩, ⟨_, _, rfl, fun h => by omega⟩⟩

theorem SliceIs.monoP {w w' : World} {v : Value} {k : Nat} {f : Nat → Value} (h : SliceIs w v k f) (hf : ∀ i a n c, f i ≠ .slice a n c) (hw : ∀ (a : Addr) (u : Value), (∀ b n c, u ≠ .slice b n c) → w.cell? a = some u → w'.cell? a = some u) : SliceIs w' v k f := by
  obtain ⟨a, c, rfl, hc⟩ := h
  refine ⟨a, c, rfl, fun hp => ?_⟩
  obtain ⟨g, o, rfl, hi⟩ := hc hp
  exact ⟨g, o, rfl, fun i hlt => hw _ _ (hf i) (hi i hlt)⟩
theorem StampIs.monoP {w w' : World} {v : Value} {c : Nat → Int} (h : StampIs w v c) (hw : ∀ (a : Addr) (u : Value), (∀ b n c, u ≠ .slice b n c) → w.cell? a = some u → w'.cell? a = some u) : StampIs w' v c := by
  obtain ⟨nv, cv, k, F, e, hs, h1, h2⟩ := h
  exact ⟨nv, cv, k, F, e, hs, h1.monoP (fun i a n c => by simp) hw, h2.monoP (fun i a n c => by simp) hw⟩

/-- A stamp's variable is turned: no stamp lies there. -/
theorem StampIs.into {w : World} {v : Value} {c : Nat → Int} (h : StampIs w v c) {B : Nat} {a1 a2 : Option Addr} {n1 c1 n2 c2 : Nat} (hb : w.heap[B]? = some (.cells #[.slice a1 n1 c1, .slice a2 n2 c2] 37 (0, 0))) (u0 u1 : Value) :
    StampIs ((w.setCell ⟨B, 0, none⟩ u0).setCell ⟨B, 1, none⟩ u1) v c := by
  refine h.monoP fun ad u hu hc => ?_
  have hne : ad.block ≠ B := fun e => by
    subst e
    rcases ad with ⟨g, o, sp⟩
    simp only [World.cell?, hb] at hc
    split at hc
    · cases hc
    · match o, hc with
      | 0, hc => simp at hc; exact hu _ _ _ hc.symm
      | 1, hc => simp at hc; exact hu _ _ _ hc.symm
      | o + 2, hc => simp at hc
  exact set_far (a := ⟨B, 1, none⟩) hne (set_far (a := ⟨B, 0, none⟩) hne hc)

set_option maxHeartbeats 4000000 in
set_option maxRecDepth 20000 in
theorem stamp_any (T : Tr) (hT : T.Ok) (K : Nat → Nat → Int) (i : Nat) (hi : i < T.m) (w : World) (hI : T.In w) (hK : Kept T K w) :
    Calls Ybaf.prog 6 #[.pointer (some ⟨T.vb, 0, none⟩), .int .i64 i] w fun e w' => ∃ v c, e = .returned v ∧ StampIs w' v c ∧ StampSays T K i c ∧ Below w.heap.size w w' := by
  have hI1 : ∀ o, T.In (w.alloc o) := fun o => hI.mono (alloc_cells w o)
  go_enter Ybaf.func6, Ybaf.ntmps6
  go_wp2_with fail
  refine (last_any T hT i hi _ (hI1 _)).mono ?_
  rintro e w1 ⟨hsays, hB1⟩
  have hr : w1.heap[w.heap.size]? = some (.cells #[.slice none 0 0, .slice none 0 0] 37 (0, 0)) := (hB1.block _ (by simp)).trans (heap_alloc_new w _)
  have hBw : Below w.heap.size w w1 := ((Below.refl _ w).alloc (Nat.le_refl _) _).trans (hB1.mono (by simp))
  have hlt1 := lt_of_block hr
  have HI1 := Hid.intro hI1
  have HI := Hid.intro hI
  have HK := Hid.intro hK
  clear hI1 hI hK hB1
  have r0 := two_cell0 hr
  have r1 := two_cell1 hr
  have x0 := two_free hr 0
  have x1 := two_free hr 1
  have hra : ∀ o, (w1.alloc o).heap[w.heap.size]? = some (.cells #[.slice none 0 0, .slice none 0 0] 37 (0, 0)) := fun o => (Below.heap_alloc _ _ _ hlt1).trans hr
  have e0 : ∀ u0 u1 o, (((w1.setCell ⟨w.heap.size, 0, none⟩ u0).setCell ⟨w.heap.size, 1, none⟩ u1).alloc o).cell? ⟨w.heap.size, 0, none⟩ = some u0 := fun u0 u1 o => Lib.cell?_alloc_some o (two_cell0 (two_set1 (two_set0 hr)))
  have e1 : ∀ u0 u1 o, (((w1.setCell ⟨w.heap.size, 0, none⟩ u0).setCell ⟨w.heap.size, 1, none⟩ u1).alloc o).cell? ⟨w.heap.size, 1, none⟩ = some u1 := fun u0 u1 o => Lib.cell?_alloc_some o (two_cell1 (two_set1 (two_set0 hr)))
  have eB : ∀ u0 u1 o, Below w.heap.size w (((w1.setCell ⟨w.heap.size, 0, none⟩ u0).setCell ⟨w.heap.size, 1, none⟩ u1).alloc o) := fun u0 u1 o => Below.alloc ((hBw.setCell (p := ⟨w.heap.size, 0, none⟩) (Nat.le_refl _) _).setCell (p := ⟨w.heap.size, 1, none⟩) (Nat.le_refl _) _) (by simp [World.setCell]; omega) _
  have E0 := Hid.intro e0
  have E1 := Hid.intro e1
  clear e0 e1
  rcases hsays with ⟨hperf, rfl⟩ | ⟨hperf, j, hj1, hj2, hAj, hmax, rfl⟩
  · have HP := Hid.intro hperf
    clear hperf
    go_wp2
    exact bodyPost_ret (v := .agg #[.slice none 0 0, .slice none 0 0]) (by simp [results, Ybaf.results6, go_sem, E0.out, E1.out]) rfl ⟨_, _, rfl, zero_stamp _, .inl ⟨HP.out, rfl⟩, eB _ _ _⟩
  · have HP := Hid.intro hperf
    have HM := Hid.intro hmax
    have hL := (hT.S1 _ (hT.PR1 i hi)).2
    have hA2 := hT.A2 j (by omega)
    clear hperf hmax
    by_cases hat : T.A j = T.SQ i
    · have hb : (T.A j == (T.SQ i : Int)) = true := by simpa using hat
      have hK1 := ((HK.out j (by omega)).1.mono (below_cells hBw))
      have HK1 := Hid.intro hK1
      have HAT := Hid.intro hat
      clear hK1 hat
      go_wp2
      exact bodyPost_ret (v := .agg #[.slice (T.NA j) (T.N1 j) (T.N2 j), .slice (T.CA j) (T.C1 j) (T.C2 j)]) (by simp [results, Ybaf.results6, go_sem, E0.out, E1.out]) rfl ⟨_, K j, rfl, (HK.out j (by omega)).1.mono (below_cells (eB _ _ _)), .inr ⟨HP.out, j, hj1, hj2, hAj, HM.out, by rw [if_pos HAT.out]⟩, eB _ _ _⟩
    · have hb : (T.A j == (T.SQ i : Int)) = false := by simpa using hat
      have hIa : ∀ o, T.In (w1.alloc o) := fun o => HI.out.mono (below_cells (hBw.alloc (by omega) o))
      have HIA := Hid.intro hIa
      have HRA := Hid.intro hra
      obtain ⟨hst, hN12, hN2⟩ := HK.out j (by omega)
      obtain ⟨nv, cv, k, F, e, hsub, ⟨an, cn, rfl, hn⟩, ⟨ac, cc, rfl, hc⟩⟩ := hst
      simp at e
      obtain ⟨⟨e1, e2, e3⟩, e4, e5, e6⟩ := e
      subst e1
      subst e2
      subst e3
      subst e4
      subst e6
      have HS := Hid.intro hsub
      have HN := Hid.intro hn
      have HCN := Hid.intro hc
      have HC1 := Hid.intro e5
      have HAT := Hid.intro hat
      clear hIa hra hsub hn hc e5 hat
      go_wp2_with fail
      refine wp_then (stamp_reg6 _ _ _ _ _ _ _ _ _ _ _ _ _ _ _ _ _ _ _ _ _ _ _ _ _ _ _ _ _ _ _ _ _ _ _ _ _ _ _ _ _ _ _ _ _ _ _ _ _ _ _ _ _ _ _ _ _ _ _ _ _ _ _ _ T hT i hi _ (HIA.out _)) ?_
      rintro _ w5 ⟨gt, g9, u31, u32, u33, u34, u35, u36, u37, u38, u39, u40, u41, u42, u43, u44, u45, u46, ⟨hgt, hgtl, hg9, hg9l, hB5⟩, rfl⟩
      have hk5 : w5.heap[w1.heap.size]? = _ := (hB5.block _ (by simp)).trans (heap_alloc_new _ _)
      have m1 : w5.cell? ⟨w1.heap.size, 1, none⟩ = some (.slice (T.NA j) (T.N1 j) (T.N2 j)) := by simp [World.cell?, hk5]
      have m2 : w5.cell? ⟨w1.heap.size, 2, none⟩ = some (.slice (T.CA j) (T.C1 j) (T.C2 j)) := by simp [World.cell?, hk5]
      have n0 := two_cell0 hg9
      have n1 := two_cell1 hg9
      have hr5 : w5.heap[w.heap.size]? = some (.cells #[.slice none 0 0, .slice none 0 0] 37 (0, 0)) := (hB5.block _ (by simp; omega)).trans (HRA.out _)
      have hBw5 : Below w.heap.size w w5 := (hBw.alloc (by omega) _).trans (hB5.mono (by simp; omega))
      have hz5 := hB5.size
      simp at hz5 hgtl
      have HI5 : Hid (T.In w5) := HI.out.mono (below_cells hBw5)
      rw [HC1.out] at m2
      clear hB5 hk5 r0 r1 x0 x1
      go_wp2_with fail
      refine (join_any (T.NA j) (T.CA j) (T.N1 j) (T.N2 j) (T.C2 j) gt 1 T.gs i 1 F (K j) (T.PR i) ((T.SQ i : Int) + 1) _ HS.out hN12 hN2 (fun h0 => ?_) (fun h0 => ?_) (by have := hT.PR1 i hi; have := hT.n3; omega) hgt (HI5.out.sq i hi) (by omega) (by omega) (by omega)).mono ?_
      · obtain ⟨g, o, e, hci⟩ := HN.out h0
        have := block_lt_of_cell (hci 0 h0)
        exact ⟨g, o, e, by simp at this; omega, fun t ht => below_cells hBw5 _ _ (hci t ht)⟩
      · obtain ⟨g, o, e, hci⟩ := HCN.out h0
        exact ⟨g, o, e, fun t ht => below_cells hBw5 _ _ (hci t (by omega))⟩
      rintro e w6 ⟨v, rfl, hS6, hB6⟩
      have HS6 := Hid.intro hS6
      obtain ⟨nv, cv, k', F', rfl, hs', ⟨an', cn', rfl, hn'⟩, ⟨ac', cc', rfl, hc'⟩⟩ := hS6
      have hr6 : w6.heap[w.heap.size]? = some (.cells #[.slice none 0 0, .slice none 0 0] 37 (0, 0)) := (hB6.block _ (lt_of_block hr5)).trans hr5
      have hBw6 : Below w.heap.size w w6 := hBw5.trans (hB6.mono (by omega))
      have r0 := two_cell0 hr6
      have r1 := two_cell1 hr6
      have x0 := two_free hr6 0
      have x1 := two_free hr6 1
      have e0 : ∀ u0 u1, ((w6.setCell ⟨w.heap.size, 0, none⟩ u0).setCell ⟨w.heap.size, 1, none⟩ u1).cell? ⟨w.heap.size, 0, none⟩ = some u0 := fun u0 u1 => two_cell0 (two_set1 (two_set0 hr6))
      have e1 : ∀ u0 u1, ((w6.setCell ⟨w.heap.size, 0, none⟩ u0).setCell ⟨w.heap.size, 1, none⟩ u1).cell? ⟨w.heap.size, 1, none⟩ = some u1 := fun u0 u1 => two_cell1 (two_set1 (two_set0 hr6))
      have HE0 := Hid.intro e0
      have HE1 := Hid.intro e1
      have HR6 := Hid.intro hr6
      clear e0 e1 hs' hn' hc' hr6 hB6 m1 m2 n0 n1 hg9 hgt
      go_wp2
      exact bodyPost_ret (v := .agg #[.slice an' k' cn', .slice ac' k' cc']) (by simp [results, Ybaf.results6, go_sem, HE0.out, HE1.out]) rfl ⟨_, _, rfl, HS6.out.into HR6.out _ _, .inr ⟨HP.out, j, hj1, hj2, hAj, HM.out, by rw [if_neg HAT.out]⟩, (hBw6.setCell (p := ⟨w.heap.size, 0, none⟩) (Nat.le_refl _) _).setCell (p := ⟨w.heap.size, 1, none⟩) (Nat.le_refl _) _⟩

end Go.Proofs.YbulkcjpqFmt
