import Derived.Test.YbulkcjpqFmtLast
namespace Go.Proofs.YbulkcjpqFmt
open Go.ChangeShapes Go.WideShapes Go.ChangeAt Go.RowKit
set_option linter.unusedVariables false
set_option linter.unusedSimpArgs false

set_option maxHeartbeats 1000000 in
theorem of_any (gst n1 c1 gv L cap p s0 s1 : Nat) (w : World) (hp : p + 1 < n1) (hn : n1 ≤ 100) (h01 : s0 < s1) (h1 : s1 ≤ L) (hL : L ≤ cap) (hL2 : L ≤ 1000) (hcap : cap ≤ 9223372036854775807)
    (k0 : w.cell? ⟨gst, p, none⟩ = some (.int .i32 s0)) (k1 : w.cell? ⟨gst, p + 1, none⟩ = some (.int .i32 s1)) :
    Calls Ybaf.prog 19 #[.agg #[.slice (some ⟨gst, 0, none⟩) n1 c1, .slice (some ⟨gv, 0, none⟩) L cap], .int .i64 p] w fun e w' => e = .returned (.slice (some ⟨gv, s0 * 3, none⟩) (s1 - s0) (cap - s0)) ∧ Below w.heap.size w w' := by
  have q0 : ∀ o, (w.alloc o).cell? ⟨gst, p, none⟩ = some (.int .i32 s0) := fun o => Lib.cell?_alloc_some o k0
  have q1 : ∀ o, (w.alloc o).cell? ⟨gst, p + 1, none⟩ = some (.int .i32 s1) := fun o => Lib.cell?_alloc_some o k1
  have hc0 : ¬ cap = s0 := by omega
  have i0 : (0 : Int) ≤ (p : Int) := by omega
  have i1 : (p : Int) < (n1 : Int) := by omega
  have i2 : (p : Int) + 1 < (n1 : Int) := by omega
  have j0 : (s0 : Int) ≤ (s1 : Int) := by omega
  have j1 : (s1 : Int) ≤ (cap : Int) := by omega
  go_enter Ybaf.func19, Ybaf.ntmps19
  go_wp2_with fail
  go_quiet (fail)
  go_wp2
  go_ret
  exact ⟨rfl, below_drewN ((Below.refl _ w).alloc (Nat.le_refl _) _) nq⟩

theorem name_p (n p ge : Nat) (w : World) (hn : n ≤ 3) (hp : p < n) (e0 : ∀ i, i < 3 → w.cell? ⟨ge, i, none⟩ = some (.int .i32 ((i : Int) + 1))) :
    Calls Ybaf.prog 10 #[.agg #[.string (ByteArray.extract ⟨#[97, 98, 99]⟩ 0 n), .slice (some ⟨ge, 0, none⟩) n 3], .int .i32 p] w fun e w' => e = .returned (.string (nameB p)) ∧ Below w.heap.size w w' := by
  have q : ∀ o i, i < 3 → (w.alloc o).cell? ⟨ge, i, none⟩ = some (.int .i32 ((i : Int) + 1)) := fun o i hi => Lib.cell?_alloc_some o (e0 i hi)
  have q0 := fun o => q o 0 (by omega)
  have q1 := fun o => q o 1 (by omega)
  have q2 := fun o => q o 2 (by omega)
  clear q e0
  have hc : (n = 1 ∧ p = 0) ∨ (n = 2 ∧ p = 0) ∨ (n = 2 ∧ p = 1) ∨ (n = 3 ∧ p = 0) ∨ (n = 3 ∧ p = 1) ∨ (n = 3 ∧ p = 2) := by omega
  rcases hc with ⟨rfl, rfl⟩ | ⟨rfl, rfl⟩ | ⟨rfl, rfl⟩ | ⟨rfl, rfl⟩ | ⟨rfl, rfl⟩ | ⟨rfl, rfl⟩
  all_goals go_enter Ybaf.func10, Ybaf.ntmps10
  all_goals go_wp2_with fail
  all_goals go_quiet (fail)
  all_goals go_wp2
  all_goals go_ret
  all_goals exact ⟨congrArg (fun s : ByteArray => Ending.returned (Value.string s)) (by decide +kernel), below_drewN ((Below.refl _ w).alloc (Nat.le_refl _) _) nq⟩


/-- Where the trace's parts lie, and what they hold. -/
structure Tr where
  vb : Nat
  gst : Nat
  gv : Nat
  L : Nat
  cap : Nat
  gpf : Nat
  ge : Nat
  pb : Nat
  gp : Nat
  sb : Nat
  gs : Nat
  n : Nat
  m : Nat
  S : Nat → Nat
  A : Nat → Int
  NA : Nat → Option Addr
  N1 : Nat → Nat
  N2 : Nat → Nat
  CA : Nat → Option Addr
  C1 : Nat → Nat
  C2 : Nat → Nat
  PF : Nat → Int
  PR : Nat → Nat
  SQ : Nat → Nat

structure Tr.Ok (T : Tr) : Prop where
  n1 : 1 ≤ T.n
  n3 : T.n ≤ 3
  m1 : T.m ≤ 1024
  L1 : T.L ≤ 100
  Lc : T.L ≤ T.cap
  cm : T.cap ≤ 9223372036854775807
  S1 : ∀ p, p < T.n → T.S p < T.S (p + 1) ∧ T.S (p + 1) ≤ T.L
  A1 : ∀ p i j, p < T.n → T.S p ≤ i → i < j → j < T.S (p + 1) → T.A i < T.A j
  A2 : ∀ j, j < T.L → 0 ≤ T.A j ∧ T.A j ≤ 7
  A0 : ∀ p, p < T.n → T.A (T.S p) = 0
  PR1 : ∀ i, i < T.m → T.PR i < T.n
  SQ1 : ∀ i, i < T.m → T.SQ i ≤ 7
  PF1 : ∀ p, p < T.n → 0 ≤ T.PF p ∧ T.PF p ≤ 8

structure Tr.In (T : Tr) (w : World) : Prop where
  v0 : w.cell? ⟨T.vb, 0, none⟩ = some (.slice (some ⟨T.gst, 0, none⟩) (T.n + 1) (T.n + 1))
  v1 : w.cell? ⟨T.vb, 1, none⟩ = some (.slice (some ⟨T.gv, 0, none⟩) T.L T.cap)
  v2 : w.cell? ⟨T.vb, 2, none⟩ = some (.slice (some ⟨T.gpf, 0, none⟩) T.n T.n)
  v3 : w.cell? ⟨T.vb, 3, none⟩ = some (.string (ByteArray.extract ⟨#[97, 98, 99]⟩ 0 T.n))
  v4 : w.cell? ⟨T.vb, 4, none⟩ = some (.slice (some ⟨T.ge, 0, none⟩) T.n 3)
  v5 : w.cell? ⟨T.vb, 5, none⟩ = some (.slice (some ⟨T.pb, 0, none⟩) 1 1)
  v7 : w.cell? ⟨T.vb, 7, none⟩ = some (.slice (some ⟨T.sb, 0, none⟩) 1 1)
  p0 : w.cell? ⟨T.pb, 0, none⟩ = some (.slice (some ⟨T.gp, 0, none⟩) T.m T.m)
  s0 : w.cell? ⟨T.sb, 0, none⟩ = some (.slice (some ⟨T.gs, 0, none⟩) T.m T.m)
  st : ∀ p, p ≤ T.n → w.cell? ⟨T.gst, p, none⟩ = some (.int .i32 (T.S p))
  pf : ∀ p, p < T.n → w.cell? ⟨T.gpf, p, none⟩ = some (.int .i32 (T.PF p))
  en : ∀ i, i < 3 → w.cell? ⟨T.ge, i, none⟩ = some (.int .i32 ((i : Int) + 1))
  pr : ∀ i, i < T.m → w.cell? ⟨T.gp, i, none⟩ = some (.int .i32 (T.PR i))
  sq : ∀ i, i < T.m → w.cell? ⟨T.gs, i, none⟩ = some (.int .u64 (T.SQ i + 1))
  va : ∀ j, j < T.L → w.cell? ⟨T.gv, j * 3, none⟩ = some (.int .i32 (T.A j)) ∧ w.cell? ⟨T.gv, j * 3 + 1, none⟩ = some (.slice (T.NA j) (T.N1 j) (T.N2 j)) ∧ w.cell? ⟨T.gv, j * 3 + 2, none⟩ = some (.slice (T.CA j) (T.C1 j) (T.C2 j))

theorem Tr.In.mono {T : Tr} {w w' : World} (h : T.In w) (hw : ∀ (a : Addr) (u : Value), w.cell? a = some u → w'.cell? a = some u) : T.In w' :=
  ⟨hw _ _ h.v0, hw _ _ h.v1, hw _ _ h.v2, hw _ _ h.v3, hw _ _ h.v4, hw _ _ h.v5, hw _ _ h.v7, hw _ _ h.p0, hw _ _ h.s0, fun p hp => hw _ _ (h.st p hp), fun p hp => hw _ _ (h.pf p hp), fun i hi => hw _ _ (h.en i hi),
   fun i hi => hw _ _ (h.pr i hi), fun i hi => hw _ _ (h.sq i hi), fun j hj => ⟨hw _ _ (h.va j hj).1, hw _ _ (h.va j hj).2.1, hw _ _ (h.va j hj).2.2⟩⟩

theorem below_cells {w w' : World} (h : Below w.heap.size w w') : ∀ (a : Addr) (u : Value), w.cell? a = some u → w'.cell? a = some u :=
  fun a u hc => (h.cell (block_lt_of_cell hc)).trans hc
theorem alloc_cells (w : World) (o : Obj) : ∀ (a : Addr) (u : Value), w.cell? a = some u → (w.alloc o).cell? a = some u := fun _ _ hc => Lib.cell?_alloc_some o hc

/-- What 'last' answers of event i. -/
def LastSays (T : Tr) (i : Nat) (e : Ending) : Prop :=
  (T.PF (T.PR i) ≤ T.SQ i ∧ e = .returned (.tuple #[.agg #[.int .i32 0, .slice none 0 0, .slice none 0 0], .int .i32 (T.PR i), .int .i64 (T.SQ i), .bool false])) ∨
  ((T.SQ i : Int) < T.PF (T.PR i) ∧ ∃ j, T.S (T.PR i) ≤ j ∧ j < T.S (T.PR i + 1) ∧ T.A j ≤ T.SQ i ∧ (∀ t, T.S (T.PR i) ≤ t → t < T.S (T.PR i + 1) → T.A t ≤ T.SQ i → T.A t ≤ T.A j) ∧
    e = .returned (.tuple #[.agg #[.int .i32 (T.A j), .slice (T.NA j) (T.N1 j) (T.N2 j), .slice (T.CA j) (T.C1 j) (T.C2 j)], .int .i32 (T.PR i), .int .i64 (T.SQ i), .bool true]))

set_option maxHeartbeats 2000000 in
theorem last_any (T : Tr) (hT : T.Ok) (i : Nat) (hi : i < T.m) (w : World) (hI : T.In w) :
    Calls Ybaf.prog 9 #[.pointer (some ⟨T.vb, 0, none⟩), .int .i64 i] w fun e w' => LastSays T i e ∧ Below w.heap.size w w' := by
  have hI1 : ∀ o, T.In (w.alloc o) := fun o => hI.mono (alloc_cells w o)
  have hm := hT.m1
  have hn3 := hT.n3
  have hp := hT.PR1 i hi
  have hsq := hT.SQ1 i hi
  have hpf := hT.PF1 _ hp
  have f1 := fun o => (hI1 o).v2
  have f2 := fun o => (hI1 o).pf _ hp
  have a1 := fun o => (hI1 o).pr i hi
  have a2 := fun o => (hI1 o).sq i hi
  have k0 : (0 : Int) ≤ (T.PR i : Int) := by omega
  have k1 : (T.PR i : Int) < (T.n : Int) := by omega
  by_cases hperf : T.PF (T.PR i) ≤ T.SQ i
  · go_enter Ybaf.func9, Ybaf.ntmps9
    go_wp2_with fail
    go_quiet (first | (go_at_call 17; exact Calls.quiet_of_same (at32_any T.vb 5 T.pb T.gp T.m i _ hi hm (hI1 _).v5 (hI1 _).p0)) | (go_at_call 18; exact Calls.quiet_of_same (at64_any T.vb 7 T.sb T.gs T.m i _ hi hm (hI1 _).v7 (hI1 _).s0)))
    go_wp2
    exact bodyPost_ret (v := .tuple #[.agg #[.int .i32 0, .slice none 0 0, .slice none 0 0], .int .i32 (T.PR i), .int .i64 (T.SQ i), .bool false]) (by simp [results, Ybaf.results9, go_sem]) rfl ⟨.inl ⟨hperf, rfl⟩, (((below_drewN ((Below.refl _ w).alloc (Nat.le_refl _) _) nq).setCell (p := ⟨w.heap.size, 0, none⟩) (Nat.le_refl _) _).setCell (p := ⟨w.heap.size, 1, none⟩) (Nat.le_refl _) _).setCell (p := ⟨w.heap.size, 2, none⟩) (Nat.le_refl _) _⟩
  · have HP : Hid (¬ T.PF (T.PR i) ≤ T.SQ i) := hperf
    have b0 := fun o => (hI1 o).v0
    have b1 := fun o => (hI1 o).v1
    obtain ⟨hS1, hS2⟩ := hT.S1 _ hp
    have hL1 := hT.L1
    have hLc := hT.Lc
    have hcm := hT.cm
    go_enter Ybaf.func9, Ybaf.ntmps9
    go_wp2_with fail
    go_quiet (first | (go_at_call 17; exact Calls.quiet_of_same (at32_any T.vb 5 T.pb T.gp T.m i _ hi hm (hI1 _).v5 (hI1 _).p0)) | (go_at_call 18; exact Calls.quiet_of_same (at64_any T.vb 7 T.sb T.gs T.m i _ hi hm (hI1 _).v7 (hI1 _).s0)))
    go_wp2_with fail
    have hI2 : ∀ o, T.In ((w.alloc o).drewN nq) := fun o => (hI1 o).mono (below_cells (below_drewN (Below.refl _ _) nq))
    refine (of_any T.gst (T.n + 1) (T.n + 1) T.gv T.L T.cap (T.PR i) (T.S (T.PR i)) (T.S (T.PR i + 1)) _ (by omega) (by omega) hS1 hS2 hLc (by omega) hcm ((hI2 _).st _ (by omega)) ((hI2 _).st _ (by omega))).mono ?_
    rintro e w1 ⟨rfl, hB1⟩
    have hBw : Below w.heap.size w w1 := (below_drewN ((Below.refl _ w).alloc (Nat.le_refl _) _) nq).trans (hB1.mono (by simp))
    have hIw : T.In w1 := hI.mono (below_cells hBw)
    have z : ∀ j, j < 3 → w1.heap[w.heap.size]? = some (.cells #[.int .i32 0, .slice none 0 0, .slice none 0 0] 43 (0, 0)) := fun j _ => by
      rw [hB1.block w.heap.size (by simp)]
      exact heap_alloc_new w _
    have hsz1 : w.heap.size < w1.heap.size := by have := hB1.size; simp at this; omega
    clear f1 f2 a1 a2 b0 b1 hI1 hB1 hI2
    go_wp2_with fail
    refine (searchFunc_any T.gv (T.S (T.PR i) * 3) (T.S (T.PR i + 1) - T.S (T.PR i)) (T.cap - T.S (T.PR i)) (fun t => T.A (T.S (T.PR i) + t)) (fun t => T.N1 (T.S (T.PR i) + t)) (fun t => T.N2 (T.S (T.PR i) + t)) (fun t => T.C1 (T.S (T.PR i) + t)) (fun t => T.C2 (T.S (T.PR i) + t)) (fun t => T.NA (T.S (T.PR i) + t)) (fun t => T.CA (T.S (T.PR i) + t)) (T.SQ i) _ (by omega) (fun x y hxy hy => hT.A1 _ _ _ hp (by omega) (by omega) (by omega)) (fun x hx => by have := hT.A2 (T.S (T.PR i) + x) (by omega); omega) (fun t ht => by
      have := hIw.va (T.S (T.PR i) + t) (by omega)
      rw [Nat.add_mul] at this
      exact this)).mono ?_
    rintro e w2 ⟨⟨pos, hpos, hlo, hhi, hcase⟩, hB2⟩
    have hB : Below w.heap.size w w2 := hBw.trans (hB2.mono (by omega))
    have hI2 : T.In w2 := hI.mono (below_cells hB)
    have z2 : w2.heap[w.heap.size]? = some (.cells #[.int .i32 0, .slice none 0 0, .slice none 0 0] 43 (0, 0)) := (hB2.block _ hsz1).trans (z 0 (by omega))
    have y0 : w2.cell? ⟨w.heap.size, 0, none⟩ = some (.int .i32 0) := by simp [World.cell?, z2]
    have y1 : w2.cell? ⟨w.heap.size, 1, none⟩ = some (.slice none 0 0) := by simp [World.cell?, z2]
    have y2 : w2.cell? ⟨w.heap.size, 2, none⟩ = some (.slice none 0 0) := by simp [World.cell?, z2]
    have x0 : w2.frozen? ⟨w.heap.size, 0, none⟩ = false := by simp [World.frozen?, z2]
    have x1 : w2.frozen? ⟨w.heap.size, 1, none⟩ = false := by simp [World.frozen?, z2]
    have x2 : w2.frozen? ⟨w.heap.size, 2, none⟩ = false := by simp [World.frozen?, z2]
    have hA0 := hT.A0 _ hp
    rcases hcase with ⟨hlt, hek, rfl⟩ | ⟨hne, rfl⟩
    · obtain ⟨g0, g1, g2⟩ := hI2.va (T.S (T.PR i) + pos) (by omega)
      rw [Nat.add_mul] at g0 g1 g2
      have HF : Hid (T.A (T.S (T.PR i) + pos) ≤ T.SQ i ∧ ∀ t, T.S (T.PR i) ≤ t → t < T.S (T.PR i + 1) → T.A t ≤ T.SQ i → T.A t ≤ T.A (T.S (T.PR i) + pos)) :=
        ⟨by have : T.A (T.S (T.PR i) + pos) = T.SQ i := hek; omega, fun t h1 h2 h3 => by have : T.A (T.S (T.PR i) + pos) = T.SQ i := hek; omega⟩
      have hpl : (pos : Int) < ((T.S (T.PR i + 1) - T.S (T.PR i) : Nat) : Int) := by omega
      clear hlo hhi hek hB2 hI2 z z2 hIw hA0 hI hpos
      go_wp2
      exact bodyPost_ret (v := .tuple #[.agg #[.int .i32 (T.A (T.S (T.PR i) + pos)), .slice (T.NA (T.S (T.PR i) + pos)) (T.N1 (T.S (T.PR i) + pos)) (T.N2 (T.S (T.PR i) + pos)), .slice (T.CA (T.S (T.PR i) + pos)) (T.C1 (T.S (T.PR i) + pos)) (T.C2 (T.S (T.PR i) + pos))], .int .i32 (T.PR i), .int .i64 (T.SQ i), .bool true]) (by simp [results, Ybaf.results9, go_sem, y0, y1, y2]) rfl ⟨.inr ⟨by have := HP.out; omega, _, by omega, by omega, HF.out.1, HF.out.2, rfl⟩, ((hB.setCell (p := ⟨w.heap.size, 0, none⟩) (Nat.le_refl _) _).setCell (p := ⟨w.heap.size, 1, none⟩) (Nat.le_refl _) _).setCell (p := ⟨w.heap.size, 2, none⟩) (Nat.le_refl _) _⟩
    · have hpos1 : 1 ≤ pos := by
        rcases Nat.eq_zero_or_pos pos with h0 | h0
        · subst h0
          have h1 := hhi 0 (Nat.le_refl _) (by omega)
          have h2 := hne (by omega)
          simp only [Nat.add_zero] at h1 h2
          omega
        · exact h0
      obtain ⟨g0, g1, g2⟩ := hI2.va (T.S (T.PR i) + (pos - 1)) (by omega)
      rw [Nat.add_mul] at g0 g1 g2
      have HF : Hid (T.A (T.S (T.PR i) + (pos - 1)) ≤ T.SQ i ∧ ∀ t, T.S (T.PR i) ≤ t → t < T.S (T.PR i + 1) → T.A t ≤ T.SQ i → T.A t ≤ T.A (T.S (T.PR i) + (pos - 1))) := by
        refine ⟨by have := hlo (pos - 1) (by omega); simp only at this; omega, fun t h1 h2 h3 => ?_⟩
        by_cases hc : t < T.S (T.PR i) + pos
        · by_cases he : t = T.S (T.PR i) + (pos - 1)
          · rw [he]; exact Int.le_refl _
          · have := hT.A1 _ t (T.S (T.PR i) + (pos - 1)) hp h1 (by omega) (by omega); omega
        · have h4 := hhi (t - T.S (T.PR i)) (by omega) (by omega)
          have h5 := hne (by omega)
          simp only at h4 h5
          rw [show T.S (T.PR i) + (t - T.S (T.PR i)) = t by omega] at h4
          by_cases he : t = T.S (T.PR i) + pos
          · rw [← he] at h5; omega
          · have := hT.A1 _ (T.S (T.PR i) + pos) t hp (by omega) (by omega) h2
            have h6 := hhi pos (Nat.le_refl _) (by omega)
            simp only at h6
            omega
      have hpl : (pos : Int) - 1 < ((T.S (T.PR i + 1) - T.S (T.PR i) : Nat) : Int) := by omega
      have hp1 : (1 : Int) ≤ (pos : Int) := by omega
      clear hlo hhi hne hB2 hI2 z z2 hIw hA0 hI
      go_wp2
      exact bodyPost_ret (v := .tuple #[.agg #[.int .i32 (T.A (T.S (T.PR i) + (pos - 1))), .slice (T.NA (T.S (T.PR i) + (pos - 1))) (T.N1 (T.S (T.PR i) + (pos - 1))) (T.N2 (T.S (T.PR i) + (pos - 1))), .slice (T.CA (T.S (T.PR i) + (pos - 1))) (T.C1 (T.S (T.PR i) + (pos - 1))) (T.C2 (T.S (T.PR i) + (pos - 1)))], .int .i32 (T.PR i), .int .i64 (T.SQ i), .bool true]) (by simp [results, Ybaf.results9, go_sem, y0, y1, y2]) rfl ⟨.inr ⟨by have := HP.out; omega, _, by omega, by omega, HF.out.1, HF.out.2, rfl⟩, ((hB.setCell (p := ⟨w.heap.size, 0, none⟩) (Nat.le_refl _) _).setCell (p := ⟨w.heap.size, 1, none⟩) (Nat.le_refl _) _).setCell (p := ⟨w.heap.size, 2, none⟩) (Nat.le_refl _) _⟩

end Go.Proofs.YbulkcjpqFmt
