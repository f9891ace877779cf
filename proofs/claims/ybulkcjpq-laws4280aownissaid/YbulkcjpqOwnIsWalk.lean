import Derived.Test.YbulkcjpqRows
import Derived.WalkKit
import Derived.ProofKit
import Derived.OpenShut
import Derived.ShutString
import Derived.ChangeOld
import Derived.Below
import Derived.WalkLawsBesides
import Derived.Handy
import Derived.Outline
namespace Go.Proofs.Ybulkcjpq.lawS4280AOwnIs
open Go.ChangeShapes Go.WideShapes Go.ChangeAt Go.RowKit
open Go.ChangeMaps (open_string shut_string)
set_option linter.unusedVariables false

theorem walk_empty (a0 : Option Addr) (cap0 : Nat) (a1 : Int) (w : World) :
    Calls Yba.prog 3 #[.slice a0 0 cap0, .int .u64 a1] w fun e w' => e = .returned (.bool true) ∧ Below w.heap.size w w' := by
  go_enter Yba.func3, Yba.ntmps3
  go_wp2
  go_ret
  exact ⟨rfl, by go_grown⟩

theorem walk_long (a0 : Option Addr) (len0 cap0 : Nat) (a1 : Int) (w : World) (h : 1024 < len0) :
    Calls Yba.prog 3 #[.slice a0 len0 cap0, .int .u64 a1] w fun e w' => e = .returned (.bool true) ∧ Below w.heap.size w w' := by
  go_enter Yba.func3, Yba.ntmps3
  go_wp2
  go_ret
  exact ⟨rfl, Below.refl _ _⟩


theorem own_some (sup : Int) (b off len cap : Nat) (i : Nat) (ac al : Option Addr) (nc cc nl cl : Nat) (z : Int) (w : World) (h1 : i < len) (h2 : len ≤ 1024)
   (hc : w.cell? ⟨b, off + i, none⟩ = some (.int .i32 z)) :
    Calls Yba.prog 7 #[.agg #[.int .i32 sup, .slice (some ⟨b, off, none⟩) len cap, .int .i64 i, .slice ac nc cc, .slice al nl cl]] w fun e w' => e = .returned (.int .i32 z) ∧ Below w.heap.size w w' := by
  have hc' : ∀ o, (w.alloc o).cell? ⟨b, off + i, none⟩ = some (.int .i32 z) := fun o => Lib.cell?_alloc_some o hc
  go_enter Yba.func7, Yba.ntmps7
  go_wp2
  go_ret
  exact ⟨rfl, by go_grown⟩

set_option maxHeartbeats 400000 in
theorem walk_some (b off len0 cap0 : Nat) (z0 : List Int) (a1 : Int) (w : World) (h1 : 1 ≤ len0) (h2 : len0 ≤ 1024) (ha : 0 ≤ a1) (ha2 : a1 ≤ 18446744073709551615)
   (hc : ∀ i, i < len0 → w.cell? ⟨b, off + i, none⟩ = some (.int .i32 (z0.getD i 0))) :
    Calls Yba.prog 3 #[.slice (some ⟨b, off, none⟩) len0 cap0, .int .u64 a1] w fun e w' => e = .returned (.bool true) ∧ Below w.heap.size w w' := by
  obtain ⟨k0, hk0, hk1⟩ : ∃ k0 : Nat, a1 % (len0 : Int) = (k0 : Int) ∧ k0 < len0 :=
    ⟨(a1 % (len0 : Int)).toNat, by have := Int.emod_nonneg a1 (show (len0 : Int) ≠ 0 by omega); omega, by have := Int.emod_lt_of_pos a1 (show (0:Int) < (len0 : Int) by omega); omega⟩
  have hne : ((len0 : Int) == 0) = false := by simp; omega
  go_enter Yba.func3, Yba.ntmps3
  go_wp2_with fail
  refine (own_some _ b off len0 cap0 k0 _ _ _ _ _ _ (z0.getD k0 0) _ hk1 h2 ?_).mono ?_
  · exact Lib.cell?_alloc_some _ (hc k0 hk1)
  rintro e w1 ⟨rfl, hb⟩
  have hb0 : Below w.heap.size w w1 := ((Below.refl _ _).alloc (Nat.le_refl _) _).trans (hb.mono (by simp))
  have hcw : ∀ i, i < len0 → w1.cell? ⟨b, off + i, none⟩ = some (.int .i32 (z0.getD i 0)) := fun i hi => by
    have hlt : b < w.heap.size := block_lt_of_cell (hc i hi)
    rw [hb.cell (show b < _ by rw [World.size_alloc]; omega)]
    exact Lib.cell?_alloc_some _ (hc i hi)
  clear hc hb
  go_wp2_with fail
  have HK : Hid (a1 % (len0 : Int) = (k0 : Int)) := hk0
  clear hk0
  go_loop [9, 10, 11] (fun wt fd i => ∃ k : Nat, k ≤ len0 ∧ i = .int .i64 k ∧ fd = .bool (decide (k0 < k)) ∧ wt = .int .i32 (if k0 < k then z0.getD k0 0 else 0)) (fun _ _ i => len0 - (intOf i).toNat)
  case atStart => exact ⟨0, Nat.zero_le _, rfl, by simp, by simp⟩
  case round =>
    obtain ⟨k, hk, rfl, rfl, rfl⟩ := hrel
    by_cases hlt : k < len0
    · have hck := hcw k hlt
      by_cases hkk : k = k0
      · subst hkk
        go_wp2
        go_round
        case rel => exact ⟨k + 1, by omega, by go_num, by simp, by simp⟩
        case measure => simp [intOf]; omega
      · have hkb : ((k : Int) == (k0 : Int)) = false := by simp; omega
        go_wp2
        go_round
        case rel => exact ⟨k + 1, by omega, by go_num, by congr 2; simp; omega, by congr 1; simp only [show (k0 < k + 1) = (k0 < k) from by simp; omega]⟩
        case measure => simp [intOf]; omega
    · have hkl : k0 < k := by omega
      go_wp2
      go_ret
      exact ⟨rfl, hb0⟩
end Go.Proofs.Ybulkcjpq.lawS4280AOwnIs
