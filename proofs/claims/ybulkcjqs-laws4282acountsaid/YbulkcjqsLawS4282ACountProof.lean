import Derived.Test.YbulkcjqsRows
import Derived.WalkKit
import Derived.ProofKit
import Derived.OpenShut
import Derived.ShutString
import Derived.ChangeOld
import Derived.Below
import Derived.Lib.SmallJoins
import Derived.Test.YbulkcjqsCount
namespace Go.Proofs.Ybulkcjqs.lawS4282ACount
open Go.ChangeShapes Go.WideShapes Go.ChangeAt Go.RowKit
open Go.ChangeMaps (open_string shut_string)
set_option linter.unusedVariables false

theorem own : ownKnob Yba.prog.godebug = none := by kernel_rfl
theorem laidOut : laidOutB Yba.prog = true := by kernel_rfl
theorem cells25 : Yba.prog.cellsOf 25 = 4 := by kernel_rfl
theorem cells9 : Yba.prog.cellsOf 9 = 1 := by kernel_rfl
theorem cells3 : Yba.prog.cellsOf 3 = 1 := by kernel_rfl

/-- What the walk is told of the slice of members that came in: it is nil; or it leads to its members, field by field. -/
def IsMs (w : World) (a : Option Addr) (n cap : Nat) : Prop :=
  (a = none ∧ n = 0 ∧ cap = 0) ∨ ∃ (ad : Addr) (D : Nat → ByteArray) (A h c : Nat → Int), a = some ad ∧
    (0 < n → ∃ b off, ad = ⟨b, off, none⟩ ∧ ∀ i, i < n → w.cell? ⟨b, off + i * 4, none⟩ = some (.string (D i)) ∧ w.cell? ⟨b, off + i * 4 + 1, none⟩ = some (.int .i64 (A i)) ∧ w.cell? ⟨b, off + i * 4 + 2, none⟩ = some (.int .i64 (h i)) ∧ w.cell? ⟨b, off + i * 4 + 3, none⟩ = some (.int .i64 (c i)))

/-- One member's cells. -/
theorem open_member {H : Type} {enc : TypeId × Value → H} {w : World} {base : Nat} {spare : Nat → Bool} {held : Bool} {n : Nat} {cs : List Value} {x : DataW H × List MemPlace} (hl : cs.length = 4) (h : DataW.trod enc Yba.prog w base spare held n 25 cs = some x) :
    ∃ (s : ByteArray) (p q r : Int), cs = [.string s, .int .i64 p, .int .i64 q, .int .i64 r] := by
  obtain ⟨y0, y1, y2, y3, m, _, _, e0, e1, e2, e3⟩ := Joins.trod_struct4 Yba.underlying25 h
  match cs, hl with
  | [c0, c1, c2, c3], _ =>
    simp only [cells9, cells3, List.drop_zero, List.drop_succ_cons, List.take_succ_cons, List.take_zero] at e0 e1 e2 e3
    obtain ⟨s, h0, _⟩ := DataW.trod_string Yba.underlying9 e0
    obtain ⟨p, h1, _⟩ := DataW.trod_int Yba.underlying3 e1
    obtain ⟨q, h2, _⟩ := DataW.trod_int Yba.underlying3 e2
    obtain ⟨r, h3, _⟩ := DataW.trod_int Yba.underlying3 e3
    simp at h0 h1 h2 h3
    exact ⟨s, p, q, r, by rw [h0, h1, h2, h3]⟩

theorem open_ms {H : Type} {enc : TypeId × Value → H} {w : World} {base : Nat} {held : Bool} {fuel : Nat} {a : Option Addr} {n cap : Nat} {x : DataW H × List MemPlace} (h : DataW.trod enc Yba.prog w base (fun _ => true) held fuel 22 [.slice a n cap] = some x) : IsMs w a n cap := by
  rcases Deep.open_slice Yba.underlying22 h with ⟨hcs, _⟩ | ⟨ad, len, cap', m, f, D, Pl, hcs, hb, hl, hm, hmm, hx, hel⟩
  · simp at hcs
    exact .inl hcs
  · simp at hcs
    obtain ⟨rfl, rfl, rfl⟩ := hcs
    simp at hmm
    subst hmm
    rw [cells25] at hel
    have hex : ∀ i, i < n → ∃ (t : ByteArray × Int × Int × Int), ∀ j v, [Value.string t.1, .int .i64 t.2.1, .int .i64 t.2.2.1, .int .i64 t.2.2.2][j]? = some v → w.cell? (ad.add (i * 4 + j)) = some v := fun i hi => by
      obtain ⟨cs', h1, h2⟩ := hel i (by omega)
      obtain ⟨_, hlen, hc⟩ := World.cells?_some h1
      obtain ⟨s, p, q, r, rfl⟩ := open_member hlen h2
      refine ⟨(s, p, q, r), fun j v hv => ?_⟩
      have hj : j < 4 := (List.getElem?_eq_some_iff.1 hv).1
      rw [← Deep.add_add, hc j hj]
      exact hv
    obtain ⟨T, hT⟩ := Deep.choose_lt (α := ByteArray × Int × Int × Int) hex
    refine .inr ⟨ad, fun i => (T i).1, fun i => (T i).2.1, fun i => (T i).2.2.1, fun i => (T i).2.2.2, rfl, fun hp => ?_⟩
    obtain ⟨b, off, spot⟩ := ad
    have hspot : spot = none := by simpa [Addr.add] using World.cell?_spot (hT 0 hp 0 _ rfl)
    subst hspot
    refine ⟨b, off, rfl, fun i hi => ⟨?_, ?_, ?_, ?_⟩⟩
    · have := hT i hi 0 _ rfl; rwa [add_plain] at this
    · have := hT i hi 1 _ rfl; rwa [add_plain] at this
    · have := hT i hi 2 _ rfl; rwa [add_plain] at this
    · have := hT i hi 3 _ rfl; rwa [add_plain] at this

theorem walk (a0 : Option Addr) (len0 cap0 : Nat) (a1 : Int) (a2 : Bool) (w : World) (w0 : IsMs w a0 len0 cap0) :
    Calls Yba.prog 3 #[.slice a0 len0 cap0, .int .i64 a1, .bool a2] w fun e w' => e = .returned (.bool true) ∧ Below w.heap.size w w' := by
  by_cases hn : 1024 < len0
  · exact walk_long a0 len0 cap0 a1 a2 w hn
  · rcases w0 with ⟨rfl, rfl, rfl⟩ | ⟨ad, D, A, h, c, rfl, hc⟩
    · exact walk_nil a1 a2 w
    · exact walk_some ad len0 cap0 D A h c a1 a2 w (by omega) hc

/-! ### THE ROW's STEP -/
set_option maxRecDepth 100000 in
theorem lifted (os : Os) (started : os.Started) (H : Type) (enc : TypeId × Value → H) :
    ReturnsInHanded {} Yba.checked os 3 .any (Rows.lawS4282ACountSpec.pre6 enc Yba.prog Yba.f3 Rows.lawS4282ACountRow.domain false) (Rows.lawS4282ACountSpec.post enc Yba.prog Yba.f3 false true false false) := by
  refine returnsInHanded_of_change (C := Yba.checked) own started (by kernel_rfl) Yba.func3
    (ChangeSpec.witness6 (enc := enc) (C := Yba.checked) false ⟨#[], #[.slice none 0 0, .int .i64 0, .bool false], []⟩ 8 (by kernel_rfl) (by kernel_rfl) (by kernel_rfl) (by kernel_rfl)) ?_
  intro W base args ds gs before hval0 hW hcnd _
  have hval : ∀ (j : Nat) t v, Yba.f3.params[j]? = some t → args[j]? = some v → Value.okWide Yba.prog W .any base t v := hval0
  have hW' := hW
  obtain ⟨p, q, hA0, hV, rfl, hfz, hnd⟩ := hW
  have hA : DataW.TrodAll enc Yba.prog W 0 (fun _ => true) true Yba.f3.params.toList args.toList ds p := hA0
  rw [Yba.params3] at hA hval
  obtain ⟨v0, vs0, d0, ds0, p0, q0, hargs, rfl, rfl, h0, r0⟩ := trodAll_cons hA
  obtain ⟨v1, vs1, d1, ds1, p1, q1, rfl, rfl, rfl, h1, r1⟩ := trodAll_cons r0
  obtain ⟨v2, vs2, d2, ds2, p2, q2, rfl, rfl, rfl, h2, r2⟩ := trodAll_cons r1
  obtain ⟨rfl, rfl, rfl⟩ := trodAll_nil r2
  obtain rfl : args = #[v0, v1, v2] := by cases args; simp_all
  obtain ⟨rfl, rfl⟩ := trodVars_none hV
  obtain ⟨a0, len0, cap0, rfl⟩ := okWide_slice Yba.underlying22 (hval 0 22 v0 rfl rfl)
  have k0 := h0
  have lt0 : ∀ x ∈ p0, x.block < W.heap.size := by obtain ⟨m, hm⟩ := k0; exact DataW.trod_lt m _ _ _ hm
  have w0 : IsMs W a0 len0 cap0 := by
    obtain ⟨fuel, hf⟩ := h0
    exact open_ms (by simpa [Value.cells] using hf)
  obtain ⟨a1, rfl, rfl, rfl, w1⟩ := open_int Yba.underlying3 (hval 1 3 v1 rfl rfl) h1
  obtain ⟨a2, rfl, rfl, rfl⟩ := open_bool Yba.underlying4 (hval 2 4 v2 rfl rfl) h2
  clear hA0 hval0
  refine (walk a0 len0 cap0 a1 a2 W w0).mono fun e W' ⟨he, bel⟩ => ?_
  subst he
  exact ⟨_, rfl, _, _, _, [], _, [], hW', trodAll_mk1 (shut_bool Yba.underlying4 _), (trodAll_cons_mk (Below.trod laidOut (by kernel_rfl) (of_decide_eq_true (by kernel_rfl)) k0 bel lt0) (trodAll_cons_mk (shut_int Yba.underlying3 w1) (trodAll_cons_mk (shut_bool Yba.underlying4 _) trodAll_mk0))), rfl, bel.frame _, fun h => by cases h⟩

theorem over : Rows.lawS4282ACountRow.holds Yba.pinned (OpenSpec.ofChange Rows.lawS4282ACountSpec) :=
  OpenClaim.holds_of_wide 3 Yba.f3 rfl rfl rfl rfl rfl rfl rfl ⟨rfl, rfl, rfl, rfl, rfl⟩ rfl rfl rfl rfl rfl (by kernel_rfl) Yba.func3 (by kernel_rfl)
    (of_decide_eq_true (by kernel_rfl)) (by unfold Func.isWrapper; first | (rw [if_pos (by decide +kernel)]; kernel_rfl) | (rw [if_neg (by decide +kernel)]; exact ⟨rfl, rfl⟩))
    (fun os started H enc _ => lifted os started H enc)

theorem proved : Rows.LawS4282ACountSaid := over
end Go.Proofs.Ybulkcjqs.lawS4282ACount
