import Derived.Test.YbulkcjpqRows
import Derived.WalkKit
import Derived.ProofKit
import Derived.OpenShut
import Derived.Below
import Derived.WalkLawsBesides
import Derived.Handy
import Derived.Outline
import Derived.Deep.OwnRows
import Derived.Deep.RegionWith
namespace Go.Proofs.Ybulkcjpq.lawS4280AOwnEntry
open Go.ChangeShapes Go.WideShapes Go.ChangeAt Go.RowKit
set_option linter.unusedVariables false
set_option linter.unusedSimpArgs false

theorem less_any (a b : Int) (w : World) : Calls Yba.prog 15 #[.int .i32 a, .int .i32 b] w fun e w' => e = .returned (.bool (decide (a < b))) ∧ w' = w := by
  go_enter Yba.func15, Yba.ntmps15
  go_wp2
  go_ret
  exact ⟨rfl, rfl⟩

set_option maxHeartbeats 800000 in
theorem search_hit (g n cap at0 : Nat) (F : Nat → Int) (w : World) (hn : n ≤ 1024) (ha : at0 < n) (hF : ∀ i j, i < j → j < n → F i < F j)
    (hc : ∀ i, i < n → w.cell? ⟨g, i, none⟩ = some (.int .i32 (F i))) :
    Calls Yba.prog 14 #[.slice (some ⟨g, 0, none⟩) n cap, .int .i32 (F at0)] w fun e w' => e = .returned (.tuple #[.int .i64 at0, .bool true]) ∧ w' = w := by
  go_enter Yba.func14, Yba.ntmps14
  go_wp2_with fail
  go_loop [7, 8] (fun vi vj => ∃ i j : Nat, i ≤ at0 ∧ at0 ≤ j ∧ j ≤ n ∧ vi = .int .i64 i ∧ vj = .int .i64 j) (fun vi vj => (intOf vj).toNat - (intOf vi).toNat)
  case atStart => exact ⟨0, n, by omega, by omega, by omega, rfl, rfl⟩
  case round =>
    obtain ⟨i, j, h1, h2, h3, rfl, rfl⟩ := hrel
    by_cases hlt : i < j
    · have hck := hc ((i + j) / 2) (by omega)
      by_cases hm : (i + j) / 2 < at0
      · have hd : decide (F ((i + j) / 2) < F at0) = true := by simp; exact hF _ _ hm ha
        go_wp2_with fail
        refine (less_any _ _ _).mono ?_
        rintro e w' ⟨rfl, rfl⟩
        go_wp2
        go_round
        case rel => exact ⟨(i + j) / 2 + 1, j, by omega, h2, h3, by go_num, rfl⟩
        case measure => simp [intOf]; omega
      · have hd : decide (F ((i + j) / 2) < F at0) = false := by
          simp
          by_cases e : (i + j) / 2 = at0
          · rw [e]; omega
          · have := hF at0 ((i + j) / 2) (by omega) (by omega); omega
        go_wp2_with fail
        refine (less_any _ _ _).mono ?_
        rintro e w' ⟨rfl, rfl⟩
        go_wp2
        go_round
        case rel => exact ⟨i, (i + j) / 2, h1, by omega, by omega, rfl, by go_num⟩
        case measure => simp [intOf]; omega
    · obtain rfl : i = at0 := by omega
      have hck := hc i ha
      have hd : decide ((i : Int) < (n : Int)) = true := by simp; omega
      clear hF hc
      go_wp2
      go_ret2
      exact ⟨rfl, rfl⟩

/-- The clock's struct, boxed by a method that takes it by value. -/
def clk (sup : Int) (gp gc n at0 : Nat) : Array Value := #[.int .i32 sup, .slice (some ⟨gp, 0, none⟩) n n, .int .i64 at0, .slice (some ⟨gc, 0, none⟩) n n, .slice none 0 0]

theorem own_at (sup : Int) (gp gc n at0 : Nat) (z : Int) (w : World) (h1 : at0 < n) (h2 : n ≤ 1024) (hc : w.cell? ⟨gp, at0, none⟩ = some (.int .i32 z)) :
    Calls Yba.prog 7 #[.agg #[.int .i32 sup, .slice (some ⟨gp, 0, none⟩) n n, .int .i64 at0, .slice (some ⟨gc, 0, none⟩) n n, .slice none 0 0]] w fun e w' => e = .returned (.int .i32 z) ∧ w.alloc (.cells (clk sup gp gc n at0) 26) = w' := by
  have hc' : ∀ o, (w.alloc o).cell? ⟨gp, at0, none⟩ = some (.int .i32 z) := fun o => Lib.cell?_alloc_some o hc
  have hne : ((n : Int) == 0) = false := by simp; omega
  go_enter Yba.func7, Yba.ntmps7
  go_wp2
  go_ret
  exact ⟨rfl, rfl⟩

theorem count_at (sup : Int) (gp gc n at0 : Nat) (z : Int) (w : World) (h1 : at0 < n) (h2 : n ≤ 1024) (hc : w.cell? ⟨gc, at0, none⟩ = some (.int .u64 z)) :
    Calls Yba.prog 9 #[.agg #[.int .i32 sup, .slice (some ⟨gp, 0, none⟩) n n, .int .i64 at0, .slice (some ⟨gc, 0, none⟩) n n, .slice none 0 0]] w fun e w' => e = .returned (.int .u64 z) ∧ w.alloc (.cells (clk sup gp gc n at0) 26) = w' := by
  have hc' : ∀ o, (w.alloc o).cell? ⟨gc, at0, none⟩ = some (.int .u64 z) := fun o => Lib.cell?_alloc_some o hc
  go_enter Yba.func9, Yba.ntmps9
  go_wp2
  go_ret
  exact ⟨rfl, rfl⟩

theorem entry_at (sup : Int) (gp gc n at0 : Nat) (F : Nat → Int) (z : Int) (w : World) (h1 : at0 < n) (h2 : n ≤ 1024) (hF : ∀ i j, i < j → j < n → F i < F j) (hp : ∀ i, i < n → w.cell? ⟨gp, i, none⟩ = some (.int .i32 (F i))) (hc : w.cell? ⟨gc, at0, none⟩ = some (.int .u64 z)) :
    Calls Yba.prog 8 #[.agg #[.int .i32 sup, .slice (some ⟨gp, 0, none⟩) n n, .int .i64 at0, .slice (some ⟨gc, 0, none⟩) n n, .slice none 0 0], .int .i32 (F at0)] w fun e w' => e = .returned (.int .u64 z) ∧ w.alloc (.cells (clk sup gp gc n at0) 26) = w' := by
  have hc' : ∀ o, (w.alloc o).cell? ⟨gc, at0, none⟩ = some (.int .u64 z) := fun o => Lib.cell?_alloc_some o hc
  go_enter Yba.func8, Yba.ntmps8
  go_wp2_with fail
  refine (search_hit gp n n at0 F _ h2 h1 hF (fun i hi => Lib.cell?_alloc_some _ (hp i hi))).mono ?_
  rintro e w' ⟨rfl, rfl⟩
  clear hF hp
  go_wp2
  go_ret
  exact ⟨rfl, rfl⟩

end Go.Proofs.Ybulkcjpq.lawS4280AOwnEntry
