import Derived.Test.YbulkcjpqFmtJoinA
namespace Go.Proofs.YbulkcjpqFmt
open Go.ChangeShapes Go.WideShapes Go.ChangeAt Go.RowKit Go.Deep
set_option linter.unusedVariables false
set_option linter.unusedSimpArgs false

theorem JS.facts {w wr : World} {sn sc tn tc nv cv : Value} {nn nc : List Value} (h : JS w sn sc tn tc wr nv cv nn nc) :
    wr.cell? ⟨w.heap.size, 0, none⟩ = some sn ∧ wr.cell? ⟨w.heap.size, 1, none⟩ = some sc ∧ wr.cell? ⟨w.heap.size + 1, 0, none⟩ = some tn ∧ wr.cell? ⟨w.heap.size + 1, 1, none⟩ = some tc ∧
    wr.cell? ⟨w.heap.size + 1 + 1 + 1 + 1, 0, none⟩ = some nv ∧ wr.cell? ⟨w.heap.size + 1 + 1 + 1 + 1, 1, none⟩ = some cv ∧ (∀ i, wr.frozen? ⟨w.heap.size + 1 + 1 + 1 + 1, i, none⟩ = false) ∧
    (∀ o', (wr.alloc o').cell? ⟨w.heap.size + 1 + 1 + 1 + 1, 0, none⟩ = some nv) ∧ (∀ o', (wr.alloc o').cell? ⟨w.heap.size + 1 + 1 + 1 + 1, 1, none⟩ = some cv) ∧
    (∀ m o', ((wr.drewN m).alloc o').cell? ⟨w.heap.size + 1 + 1 + 1 + 1, 0, none⟩ = some nv) ∧ (∀ m o', ((wr.drewN m).alloc o').cell? ⟨w.heap.size + 1 + 1 + 1 + 1, 1, none⟩ = some cv) :=
  ⟨two_cell0 h.hs, two_cell1 h.hs, two_cell0 h.ht, two_cell1 h.ht, two_cell0 h.hj, two_cell1 h.hj, two_free h.hj, fun o' => Lib.cell?_alloc_some o' (two_cell0 h.hj), fun o' => Lib.cell?_alloc_some o' (two_cell1 h.hj), fun m o' => Lib.cell?_alloc_some (W := wr.drewN m) o' (two_cell0 h.hj), fun m o' => Lib.cell?_alloc_some (W := wr.drewN m) o' (two_cell1 h.hj)⟩

/-- F with p laid in at a. -/
def G3 (F : Nat → Nat) (p a t : Nat) : Nat := if t < a then F t else if t = a then p else F (t - 1)

theorem g3_lo {F : Nat → Nat} {p a t : Nat} (h : t < a) : G3 F p a t = F t := by unfold G3; rw [if_pos h]
theorem g3_at {F : Nat → Nat} {p a : Nat} : G3 F p a a = p := by unfold G3; rw [if_neg (by omega), if_pos rfl]
theorem g3_hi {F : Nat → Nat} {p a t : Nat} (h : a ≤ t) : G3 F p a (t + 1) = F t := by unfold G3; rw [if_neg (by omega), if_neg (by omega)]; rfl

theorem Sub.new {F : Nat → Nat} {n p a : Nat} {c : Nat → Int} {x : Int} (h : Sub F n c) (hp : p < 3) (ha : a ≤ n) (hlo : ∀ t, t < a → F t < p) (hhi : ∀ t, a ≤ t → t < n → p < F t) (hx : 1 ≤ x) :
    Sub (G3 F p a) (n + 1) (fun q => if q = p then max (c p) x else c q) := by
  have key : ∀ t, t < n + 1 → (t < a ∧ G3 F p a t = F t) ∨ (t = a ∧ G3 F p a t = p) ∨ (a < t ∧ G3 F p a t = F (t - 1)) := fun t ht => by
    unfold G3
    by_cases h1 : t < a
    · exact .inl ⟨h1, by rw [if_pos h1]⟩
    · by_cases h2 : t = a
      · exact .inr (.inl ⟨h2, by rw [if_neg h1, if_pos h2]⟩)
      · exact .inr (.inr ⟨by omega, by rw [if_neg h1, if_neg h2]⟩)
  have hmono : ∀ i j, i < j → j < n + 1 → G3 F p a i < G3 F p a j := fun i j hij hj => by
    rcases key i (by omega) with ⟨h1, e1⟩ | ⟨h1, e1⟩ | ⟨h1, e1⟩ <;> rcases key j hj with ⟨h2, e2⟩ | ⟨h2, e2⟩ | ⟨h2, e2⟩ <;> rw [e1, e2]
    · exact h.mono i j hij (by omega)
    · exact hlo i h1
    · have := hlo i h1; have := hhi (j - 1) (by omega) (by omega); omega
    · omega
    · omega
    · exact hhi (j - 1) (by omega) (by omega)
    · omega
    · omega
    · exact h.mono (i - 1) (j - 1) (by omega) (by omega)
  have hlt : ∀ i, i < n + 1 → G3 F p a i < 3 := fun i hi => by
    rcases key i hi with ⟨h1, e1⟩ | ⟨h1, e1⟩ | ⟨h1, e1⟩ <;> rw [e1]
    · exact h.lt i (by omega)
    · exact hp
    · exact h.lt (i - 1) (by omega)
  refine ⟨?_, hlt, fun i hi => ?_, hmono, fun q hq hc => ?_⟩
  · have h3 := h.le
    by_cases h4 : n + 1 ≤ 3
    · exact h4
    · obtain rfl : n = 3 := by omega
      have := hmono 0 1 (by omega) (by omega); have := hmono 1 2 (by omega) (by omega); have := hmono 2 3 (by omega) (by omega); have := hlt 3 (by omega); omega
  · show (if G3 F p a i = p then max (c p) x else c (G3 F p a i)) ≠ 0
    split
    · omega
    · rename_i hne
      rcases key i hi with ⟨h1, e1⟩ | ⟨h1, e1⟩ | ⟨h1, e1⟩
      · rw [e1]; exact h.ne i (by omega)
      · exact absurd e1 hne
      · rw [e1]; exact h.ne (i - 1) (by omega)
  · by_cases hqp : q = p
    · exact ⟨a, by omega, g3_at.trans hqp.symm⟩
    · rw [if_neg hqp] at hc
      obtain ⟨i, hi, e⟩ := h.all q hq hc
      by_cases h1 : i < a
      · exact ⟨i, by omega, (g3_lo h1).trans e⟩
      · exact ⟨i + 1, by omega, (g3_hi (by omega)).trans e⟩

theorem cnt_more {c' : Nat → Int} {G : Nat → Nat} {k : Nat} {nc : List Value} {u : Value} (h : nc = (List.range k).map (fun t => cntV c' (G t))) (hu : u = cntV c' (G k)) : nc ++ [u] = (List.range (k + 1)).map (fun t => cntV c' (G t)) := by
  rw [h, hu, List.range_succ, List.map_append]; rfl
theorem nam_more {G : Nat → Nat} {k : Nat} {nn : List Value} {u : Value} (h : nn = (List.range k).map (fun t => namV (G t))) (hu : u = namV (G k)) : nn ++ [u] = (List.range (k + 1)).map (fun t => namV (G t)) := by
  rw [h, hu, List.range_succ, List.map_append]; rfl

theorem wp_then {P : Program} {c : Code} {R : Act → World → Prop} {Q : Exit → Act → World → Prop} {a : Act} {w : World} (h : Code.wp P c (Exit.then R (fun _ _ _ => False)) a w) (hq : ∀ a' w', R a' w' → Q .normal a' w') : Code.wp P c Q a w :=
  Code.wp_mono (fun e a' w' he => by
    match e, he with
    | .normal, he => exact hq a' w' he) h

/-- The region of a number. -/
def regionOf (n : Nat) : Code → Option Code
  | .region k ops d => bif Nat.beq k n then some (.region k ops d) else none
  | .loop c => regionOf n c
  | .seq a b => match regionOf n a with
    | some c => some c
    | none => regionOf n b
  | .block _ c => regionOf n c
  | .scope c => regionOf n c
  | .cond _ a b => match regionOf n a with
    | some c => some c
    | none => regionOf n b
  | _ => none

/-- The region of a number in a function's text. -/
def regIn (f : Func) (n : Nat) : Code := (f.body.bind (regionOf n)).getD .skip
end Go.Proofs.YbulkcjpqFmt
