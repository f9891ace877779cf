import Derived.Test.YbulkcjpqFmtJoinB
import Derived.Test.YbulkcjpqFmtJoinD
namespace Go.Proofs.YbulkcjpqFmt
open Go.ChangeShapes Go.WideShapes Go.ChangeAt Go.RowKit Go.Deep
set_option linter.unusedVariables false
set_option linter.unusedSimpArgs false

/-- Where p stands among the processes that F lists. -/
theorem Sub.place {F : Nat → Nat} {n : Nat} {c : Nat → Int} (h : Sub F n c) (p : Nat) :
    (∃ a, a < n ∧ F a = p) ∨ (∃ a, a ≤ n ∧ (∀ t, t < a → F t < p) ∧ (∀ t, a ≤ t → t < n → p < F t)) := by
  have key : ∀ k, k ≤ n → (∃ a, a < k ∧ F a = p) ∨ (∃ a, a ≤ k ∧ (∀ t, t < a → F t < p) ∧ (∀ t, a ≤ t → t < k → p < F t)) := by
    intro k
    induction k with
    | zero => exact fun _ => .inr ⟨0, Nat.le_refl _, fun t ht => by omega, fun t h1 h2 => by omega⟩
    | succ k ih =>
      intro hk
      rcases ih (by omega) with ⟨a, ha, e⟩ | ⟨a, ha, h1, h2⟩
      · exact .inl ⟨a, by omega, e⟩
      · by_cases hak : a < k
        · have h3 := h2 (k - 1) (by omega) (by omega)
          have h4 := h.mono (k - 1) k (by omega) (by omega)
          exact .inr ⟨a, by omega, h1, fun t t1 t2 => by
            by_cases e : t = k
            · rw [e]; omega
            · exact h2 t t1 (by omega)⟩
        · obtain rfl : a = k := by omega
          rcases Nat.lt_trichotomy (F a) p with h3 | h3 | h3
          · exact .inr ⟨a + 1, Nat.le_refl _, fun t ht => by
              by_cases e : t = a
              · rw [e]; exact h3
              · exact h1 t (by omega), fun t t1 t2 => by omega⟩
          · exact .inl ⟨a, by omega, h3⟩
          · exact .inr ⟨a, by omega, h1, fun t t1 t2 => by
              obtain rfl : t = a := by omega
              exact h3⟩
  exact key n (Nat.le_refl _)

theorem join_any (an ac : Option Addr) (n cn cc gt ct gs os ct2 : Nat) (F : Nat → Nat) (c : Nat → Int) (p : Nat) (x : Int) (w : World) (hsub : Sub F n c) (hcn : n ≤ cn) (hcn2 : cn ≤ 9223372036854775807)
    (hn : 0 < n → ∃ g o, an = some ⟨g, o, none⟩ ∧ g ≠ gt ∧ ∀ i, i < n → w.cell? ⟨g, o + i, none⟩ = some (.string (nameB (F i))))
    (hc : 0 < n → ∃ g o, ac = some ⟨g, o, none⟩ ∧ ∀ i, i < n → w.cell? ⟨g, o + i, none⟩ = some (.int .u64 (c (F i))))
    (hp : p < 3) (hgt : w.heap[gt]? = some (.cells #[.string (nameB p)] 9 (0, 0))) (hgs : w.cell? ⟨gs, os, none⟩ = some (.int .u64 x)) (hx : 1 ≤ x) (hct : 1 ≤ ct) (hct2 : ct ≤ 100) :
    Calls Ybaf.prog 13 #[.agg #[.slice an n cn, .slice ac n cc], .agg #[.slice (some ⟨gt, 0, none⟩) 1 ct, .slice (some ⟨gs, os, none⟩) 1 ct2]] w fun e w' => ∃ v, e = .returned v ∧ StampIs w' v (fun q => if q = p then max (c p) x else c q) ∧ Below w.heap.size w w' := by
  rcases hsub.place p with ⟨a, ha, e⟩ | ⟨a, ha, h1, h2⟩
  · exact join_has an ac n cn cc gt ct gs os ct2 F c p x w hsub hn hc hp hgt hgs hx a ha e
  · by_cases h0 : a = 0
    · exact join_new0 an ac n cn cc gt ct gs os ct2 F c p x w hsub hcn hcn2 hn hc hp hgt hgs hx a h0 h1 h2 hct hct2
    · exact join_newP an ac n cn cc gt ct gs os ct2 F c p x w hsub hcn hcn2 hn hc hp hgt hgs hx a (by omega) ha h1 h2 hct hct2

end Go.Proofs.YbulkcjpqFmt
