import Derived.Test.YbulkcjpqFmtCards
import Derived.Test.YbulkcjpqFmtLawR
import Derived.ProofKit
import Derived.OpenShut
import Derived.ChangeSame
import Derived.Laws.IdiomArrays
import Derived.Carry
import Derived.JoinedOf
import Derived.Stop.JoinedAt
import Derived.Stop.JoinedTold
import Derived.SevenToldRow
namespace Go.Proofs.YbulkcjpqFmt.lawS4280BStamp
open Go.ChangeShapes Go.WideShapes Go.ChangeAt Go.RowKit
open Go.Extern.Stop Go.Stop Go.Extern
set_option linter.unusedVariables false

theorem own : ownKnob Ybaf.prog.godebug = none := by kernel_rfl
theorem laidOut : laidOutB Ybaf.pinned.checked.prog = true := by kernel_rfl
theorem cells23 : Ybaf.prog.cellsOf 23 = 3 := by kernel_rfl
theorem cells5 : Ybaf.prog.cellsOf 5 = 1 := by kernel_rfl

/-- What is known of a slice of bytes that came in. -/
def IsRow (w : World) (a : Option Addr) (len : Nat) (zs : List Int) : Prop :=
  len ≤ 9223372036854775807 ∧ (0 < len → ∃ g o, a = some ⟨g, o, none⟩ ∧ ∀ i, i < len → w.cell? ⟨g, o + i, none⟩ = some (.int .u8 (zs.getD i 0))) ∧ ∀ n ∈ zs, (Lit.int .u8 n).wf = true

theorem getD_bounds {zs : List Int} (h : ∀ n ∈ zs, (Lit.int .u8 n).wf = true) (i : Nat) : 0 ≤ zs.getD i 0 ∧ zs.getD i 0 ≤ 255 := by
  have := range_u8 h i
  rw [List.getD_eq_getElem?_getD]
  exact this

theorem IsRow.nat {w : World} {a : Option Addr} {len : Nat} {zs : List Int} (h : IsRow w a len zs) : (∀ i, (zs.getD i 0).toNat ≤ 255) ∧ (0 < len → ∃ g o, a = some ⟨g, o, none⟩ ∧ ∀ i, i < len → w.cell? ⟨g, o + i, none⟩ = some (.int .u8 ((zs.getD i 0).toNat : Int))) := by
  refine ⟨fun i => by have := getD_bounds h.2.2 i; omega, fun hl => ?_⟩
  obtain ⟨g, o, e, hc⟩ := h.2.1 hl
  refine ⟨g, o, e, fun i hi => ?_⟩
  rw [hc i hi]
  have := getD_bounds h.2.2 i
  congr 2
  omega

set_option maxHeartbeats 1000000 in
set_option maxRecDepth 20000 in
theorem walk_long (np m0 m1 m2 p0 p1 p2 : Int) (ae ak ac : Option Addr) (m ce l2 ck lc cc : Nat) (w : World) (hm : 1024 < m) :
    Calls Ybaf.prog 3 #[.int .u8 np, .slice ae m ce, .slice ak l2 ck, .agg #[.int .u8 m0, .int .u8 m1, .int .u8 m2], .agg #[.int .u8 p0, .int .u8 p1, .int .u8 p2], .slice ac lc cc] w fun e w' => e = .returned (.bool true) ∧ Below w.heap.size w w' := by
  go_enter Ybaf.func3, Ybaf.ntmps3
  go_wp2
  go_ret
  exact ⟨rfl, ((Below.refl _ w).alloc (Nat.le_refl _) _).alloc (by simp) _⟩

theorem walk (np m0 m1 m2 p0 p1 p2 : Int) (ae ak ac : Option Addr) (m ce l2 ck lc cc : Nat) (z1 z2 z5 : List Int) (w : World) (h0 : (Lit.int .u8 np).wf = true) (hm0 : (Lit.int .u8 m0).wf = true) (hm1 : (Lit.int .u8 m1).wf = true) (hm2 : (Lit.int .u8 m2).wf = true)
    (hp0 : (Lit.int .u8 p0).wf = true) (hp1 : (Lit.int .u8 p1).wf = true) (hp2 : (Lit.int .u8 p2).wf = true) (w1 : IsRow w ae m z1) (w2 : IsRow w ak l2 z2) (w5 : IsRow w ac lc z5) :
    Calls Ybaf.prog 3 #[.int .u8 np, .slice ae m ce, .slice ak l2 ck, .agg #[.int .u8 m0, .int .u8 m1, .int .u8 m2], .agg #[.int .u8 p0, .int .u8 p1, .int .u8 p2], .slice ac lc cc] w fun e w' => e = .returned (.bool true) ∧ Below w.heap.size w w' := by
  have hb := bounds_u8 h0
  by_cases hl : 1024 < m
  · exact walk_long np m0 m1 m2 p0 p1 p2 ae ak ac m ce l2 ck lc cc w hl
  · have tri_b : ∀ {a b c : Int}, (Lit.int .u8 a).wf = true → (Lit.int .u8 b).wf = true → (Lit.int .u8 c).wf = true → ∀ i, 0 ≤ tri a b c i ∧ tri a b c i ≤ 255 := fun ha hb hc i => by
      unfold tri
      split
      · exact bounds_u8 ha
      · split
        · exact bounds_u8 hb
        · exact bounds_u8 hc
    exact law_main np m0 m1 m2 p0 p1 p2 ae ak ac m ce l2 ck lc cc (1 + np % 3).toNat (fun i => (z1.getD i 0).toNat) (fun i => (z2.getD i 0).toNat) (fun i => z5.getD i 0) w hb (by omega) (tri_b hm0 hm1 hm2) (tri_b hp0 hp1 hp2) (getD_bounds w5.2.2) w1.nat.1 w2.nat.1 (by omega) w2.1 w5.1 w1.nat.2 w2.nat.2 w5.2.1

/-- A slice of bytes, opened. -/
theorem open_row {H : Type} {enc : TypeId × Value → H} {W : World} {a : Option Addr} {len cap : Nat} {d : DataW H} {p : List MemPlace} (h : DataW.Trod enc Ybaf.prog W 0 (fun _ => true) true 22 (.slice a len cap) d p) : ∃ zs, IsRow W a len zs := by
  obtain ⟨fuel, hf⟩ := h
  rcases open_ints Ybaf.underlying22 Ybaf.underlying5 (by kernel_rfl) hf with ⟨hcs, _⟩ | ⟨x, l, c, zs, hcs, _, hl, hm, hz, _, hcell, hwz⟩
  · simp [Value.cells] at hcs
    obtain ⟨rfl, rfl, rfl⟩ := hcs
    exact ⟨[], by omega, fun h => by omega, fun n hn => by cases hn⟩
  · simp [Value.cells] at hcs
    obtain ⟨rfl, rfl, rfl⟩ := hcs
    refine ⟨zs, by unfold maxLen at hm; omega, fun hp => ?_, hwz⟩
    have hz' : zs.length = cap := by simpa using hz
    obtain ⟨b, off, spot⟩ := x
    have hspot : spot = none := by simpa [Addr.add] using World.cell?_spot (hcell 0 (by omega))
    subst hspot
    exact ⟨b, off, rfl, fun i hi => by rw [← Addr.add_lit]; exact hcell i (by omega)⟩

theorem list3 {α : Type} (l : List α) (h : (⟨l⟩ : Array α).size = 3) : ∃ a b c, l = [a, b, c] := by
  match l, h with
  | [a, b, c], _ => exact ⟨a, b, c, rfl⟩

/-- An array of three bytes by value, opened; and how it reads in any world. -/
theorem open_three {H : Type} {enc : TypeId × Value → H} {W : World} {base : Nat} {v : Value} {d : DataW H} {p : List MemPlace} (hv : Value.okWide Ybaf.prog W .any base 23 v) (h : DataW.Trod enc Ybaf.prog W 0 (fun _ => true) true 23 v d p) :
    ∃ x0 x1 x2, v = .agg #[.int .u8 x0, .int .u8 x1, .int .u8 x2] ∧ p = [] ∧ (Lit.int .u8 x0).wf = true ∧ (Lit.int .u8 x1).wf = true ∧ (Lit.int .u8 x2).wf = true ∧ ∀ (W' : World) (sp : Nat → Bool), DataW.Trod enc Ybaf.prog W' 0 sp true 23 v d [] := by
  obtain ⟨cs, rfl, hsz, _⟩ : ∃ cs, v = .agg cs ∧ cs.size = Ybaf.prog.cellsOf 23 ∧ Row.okWide Ybaf.prog W .any base 23 cs := by
    simpa [Value.okWide, Ybaf.underlying23] using hv
  rw [cells23] at hsz
  obtain ⟨l⟩ := cs
  obtain ⟨c0, c1, c2, rfl⟩ := list3 l hsz
  obtain ⟨fuel, hf⟩ := h
  obtain ⟨y0, y1, y2, m, hx, hy0, hy1, hy2⟩ := trod_array3 Ybaf.underlying23 cells5 hf
  obtain ⟨x0, e0, rfl, w0⟩ := DataW.trod_int Ybaf.underlying5 hy0
  obtain ⟨x1, e1, rfl, w1⟩ := DataW.trod_int Ybaf.underlying5 hy1
  obtain ⟨x2, e2, rfl, w2⟩ := DataW.trod_int Ybaf.underlying5 hy2
  simp at e0 e1 e2
  subst e0 e1 e2
  simp only [Prod.mk.injEq] at hx
  obtain ⟨rfl, rfl⟩ := hx
  exact ⟨x0, x1, x2, rfl, rfl, w0, w1, w2, fun W' sp => ⟨2, by simp [DataW.trod, Value.cells, Ybaf.underlying23, Ybaf.underlying5, cells23, cells5, w0, w1, w2, show List.range 3 = [0, 1, 2] from rfl]⟩⟩

set_option maxRecDepth 100000 in
theorem lifted (os : Os) (started : os.Started) (H : Type) (enc : TypeId × Value → H) :
    ReturnsInTold none {} Ybaf.checked os 3 .any Input.okWide ((OpenSpec.ofChange Rows.lawS4280BStampSpec).preRow enc Ybaf.prog Ybaf.f3 [] false []) (fun F => ((OpenSpec.ofChange Rows.lawS4280BStampSpec).at F).post enc Ybaf.prog Ybaf.f3 false true false false) (aloneAtReturn Ybaf.prog) nothingAlways := by
  refine returnsInTold_of_row (C := Ybaf.checked) (s := OpenSpec.ofChange Rows.lawS4280BStampSpec) (by kernel_rfl) own started (by kernel_rfl) Ybaf.func3
    (OpenSpec.witness_stopped (enc := enc) (C := Ybaf.checked) false ⟨#[], #[.int .u8 0, .slice none 0 0, .slice none 0 0, .agg #[.int .u8 0, .int .u8 0, .int .u8 0], .agg #[.int .u8 0, .int .u8 0, .int .u8 0], .slice none 0 0], []⟩ 8 (by kernel_rfl) (by kernel_rfl) (by kernel_rfl) (by kernel_rfl)) ?_
  intro F W base args ds gs before _ hF hval0 hW _ _ _ _ _
  have hval : ∀ (j : Nat) t v, Ybaf.f3.params[j]? = some t → args[j]? = some v → Value.okWide Ybaf.prog W .any base t v := hval0
  have hW' := hW
  obtain ⟨p, q, hA0, hV, rfl, hfz, hnd⟩ := hW
  have hA : DataW.TrodAll enc Ybaf.prog W 0 (fun _ => true) true Ybaf.f3.params.toList args.toList ds p := hA0
  rw [Ybaf.params3] at hA hval
  obtain ⟨v0, vs0, d0, ds0, p0, q0, hargs, rfl, rfl, h0, r0⟩ := trodAll_cons hA
  obtain ⟨v1, vs1, d1, ds1, p1, q1, rfl, rfl, rfl, h1, r1⟩ := trodAll_cons r0
  obtain ⟨v2, vs2, d2, ds2, p2, q2, rfl, rfl, rfl, h2, r2⟩ := trodAll_cons r1
  obtain ⟨v3, vs3, d3, ds3, p3, q3, rfl, rfl, rfl, h3, r3⟩ := trodAll_cons r2
  obtain ⟨v4, vs4, d4, ds4, p4, q4, rfl, rfl, rfl, h4, r4⟩ := trodAll_cons r3
  obtain ⟨v5, vs5, d5, ds5, p5, q5, rfl, rfl, rfl, h5, r5⟩ := trodAll_cons r4
  obtain ⟨rfl, rfl, rfl⟩ := trodAll_nil r5
  obtain rfl : args = #[v0, v1, v2, v3, v4, v5] := by cases args; simp_all
  obtain ⟨rfl, rfl⟩ := trodVars_none hV
  obtain ⟨np, rfl, rfl, rfl, wn⟩ := open_int Ybaf.underlying5 (hval 0 5 v0 rfl rfl) h0
  obtain ⟨a1, len1, cap1, rfl⟩ := okWide_slice Ybaf.underlying22 (hval 1 22 v1 rfl rfl)
  obtain ⟨a2, len2, cap2, rfl⟩ := okWide_slice Ybaf.underlying22 (hval 2 22 v2 rfl rfl)
  obtain ⟨a5, len5, cap5, rfl⟩ := okWide_slice Ybaf.underlying22 (hval 5 22 v5 rfl rfl)
  obtain ⟨m0, m1, m2, rfl, rfl, k0, k1, k2, rd3⟩ := open_three (hval 3 23 v3 rfl rfl) h3
  obtain ⟨f0, f1, f2, rfl, rfl, l0, l1, l2, rd4⟩ := open_three (hval 4 23 v4 rfl rfl) h4
  obtain ⟨z1, w1⟩ := open_row h1
  obtain ⟨z2, w2⟩ := open_row h2
  obtain ⟨z5, w5⟩ := open_row h5
  have lt1 : ∀ x ∈ p1, x.block < W.heap.size := by obtain ⟨m, hm⟩ := h1; exact DataW.trod_lt m _ _ _ hm
  have lt2 : ∀ x ∈ p2, x.block < W.heap.size := by obtain ⟨m, hm⟩ := h2; exact DataW.trod_lt m _ _ _ hm
  have lt5 : ∀ x ∈ p5, x.block < W.heap.size := by obtain ⟨m, hm⟩ := h5; exact DataW.trod_lt m _ _ _ hm
  clear hA0 hval0
  refine (walk np m0 m1 m2 f0 f1 f2 a1 a2 a5 len1 cap1 len2 cap2 len5 cap5 z1 z2 z5 W wn k0 k1 k2 l0 l1 l2 w1 w2 w5).mono fun e W' ⟨he, bel⟩ => ?_
  subst he
  exact ⟨_, rfl, _, _, _, [], _, [], hW', trodAll_mk1 (shut_bool Ybaf.underlying4 _), (trodAll_cons_mk (shut_int Ybaf.underlying5 wn) (trodAll_cons_mk (Below.trod laidOut (by kernel_rfl) (of_decide_eq_true (by kernel_rfl)) h1 bel lt1) (trodAll_cons_mk (Below.trod laidOut (by kernel_rfl) (of_decide_eq_true (by kernel_rfl)) h2 bel lt2) (trodAll_cons_mk (rd3 _ _) (trodAll_cons_mk (rd4 _ _) (trodAll_cons_mk (Below.trod laidOut (by kernel_rfl) (of_decide_eq_true (by kernel_rfl)) h5 bel lt5) trodAll_mk0)))))), rfl, bel.frame _, fun h => by cases h⟩

theorem stops : Ybaf.pinned.checked.prog.stops = ["fmt.Sprintf", "fmt.errorf"] := by kernel_rfl
theorem stopKnobs : Ybaf.pinned.checked.prog.stopKnobs = [] := by kernel_rfl
theorem quiet (os : Os) : Stop.quiet Ybaf.pinned.checked.prog os := by
  intro k hk
  rw [stopKnobs] at hk
  cases hk

/-- ████ THE STATEMENT ████ -/
theorem proved : Rows.LawS4280BStampToldSaid :=
  Claim7.holds_of_told_any 3 Ybaf.f3 "fmt.Sprintf" ["fmt.errorf"] [] _ _ _ (by kernel_rfl) rfl rfl rfl laidOut (by kernel_rfl) rfl ⟨rfl, rfl, rfl, rfl, rfl, rfl, rfl⟩ rfl rfl (by kernel_rfl) (by kernel_rfl) Ybaf.func3 (by kernel_rfl)
    (of_decide_eq_true (by kernel_rfl)) (of_decide_eq_true (by kernel_rfl)) stops.symm rfl stopKnobs.symm (by kernel_rfl)
    (by kernel_rfl) (by kernel_rfl) (by kernel_rfl) (by kernel_rfl) (by kernel_rfl) (by kernel_rfl) (by kernel_rfl) (by kernel_rfl) (by kernel_rfl) rfl (by kernel_rfl) rfl rfl
    rfl rfl
    rfl (by kernel_rfl) (by kernel_rfl) (by kernel_rfl) (by decide) (by kernel_rfl)
    (OpenClaim.moreEntering_of (by kernel_rfl) (by kernel_rfl) (by kernel_rfl) (by kernel_rfl) (by kernel_rfl) (by kernel_rfl) (by kernel_rfl) (by kernel_rfl) (by kernel_rfl) (by kernel_rfl))
    ⟨_, WideRow.started_initial, quiet _⟩
    (fun os started _ H enc _ => lifted os started H enc)
end Go.Proofs.YbulkcjpqFmt.lawS4280BStamp
