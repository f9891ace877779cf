import Derived.Test.YbulkcjswRows
import Derived.WalkKit
import Derived.ProofKit
import Derived.OpenShut
import Derived.WalkLawsBesides
import Derived.WalkSpells
import Derived.Handy
import Derived.Outline
namespace Go.Proofs.Ybulkcjsw.lawS4286ATable
open Go.ChangeShapes Go.WideShapes Go.ChangeAt Go.RowKit
set_option linter.unusedVariables false
set_option linter.unusedSimpArgs false

/-- What both functions answer: b1 .. b5: the tag is one of the five scalar tags; b6, b7: seq, map. -/
def ansB (b1 b2 b3 b4 b5 b6 b7 : Bool) (k : Int) : Bool :=
  if b1 then false else if b2 then false else if b3 then false else if b4 then false else if b5 then false else if b6 then k == 1 else if b7 then k == 2 else true
def ans (l : List UInt8) (k : Int) : Bool := ansB (l == [116, 97, 103, 58, 121, 97, 109, 108, 46, 111, 114, 103, 44, 50, 48, 48, 50, 58, 115, 116, 114]) (l == [116, 97, 103, 58, 121, 97, 109, 108, 46, 111, 114, 103, 44, 50, 48, 48, 50, 58, 110, 117, 108, 108]) (l == [116, 97, 103, 58, 121, 97, 109, 108, 46, 111, 114, 103, 44, 50, 48, 48, 50, 58, 98, 111, 111, 108]) (l == [116, 97, 103, 58, 121, 97, 109, 108, 46, 111, 114, 103, 44, 50, 48, 48, 50, 58, 105, 110, 116]) (l == [116, 97, 103, 58, 121, 97, 109, 108, 46, 111, 114, 103, 44, 50, 48, 48, 50, 58, 102, 108, 111, 97, 116]) (l == [116, 97, 103, 58, 121, 97, 109, 108, 46, 111, 114, 103, 44, 50, 48, 48, 50, 58, 115, 101, 113]) (l == [116, 97, 103, 58, 121, 97, 109, 108, 46, 111, 114, 103, 44, 50, 48, 48, 50, 58, 109, 97, 112]) k

set_option maxHeartbeats 1000000 in
theorem fits_any (tag : ByteArray) (k : Int) (w : World) :
    Calls Yba.prog 5 #[.string tag, .int .i64 k] w fun e w' => e = .returned (.bool (ans tag.toList k)) ∧ w' = w := by
  unfold ans
  cases h1 : (tag.toList == [116, 97, 103, 58, 121, 97, 109, 108, 46, 111, 114, 103, 44, 50, 48, 48, 50, 58, 115, 116, 114])
  case true =>
    simp only [ansB, if_true, if_false, Bool.false_eq_true]
    go_enter Yba.func5, Yba.ntmps5
    go_wp2
    go_ret
    exact ⟨rfl, rfl⟩
  cases h2 : (tag.toList == [116, 97, 103, 58, 121, 97, 109, 108, 46, 111, 114, 103, 44, 50, 48, 48, 50, 58, 110, 117, 108, 108])
  case true =>
    simp only [ansB, if_true, if_false, Bool.false_eq_true]
    go_enter Yba.func5, Yba.ntmps5
    go_wp2
    go_ret
    exact ⟨rfl, rfl⟩
  cases h3 : (tag.toList == [116, 97, 103, 58, 121, 97, 109, 108, 46, 111, 114, 103, 44, 50, 48, 48, 50, 58, 98, 111, 111, 108])
  case true =>
    simp only [ansB, if_true, if_false, Bool.false_eq_true]
    go_enter Yba.func5, Yba.ntmps5
    go_wp2
    go_ret
    exact ⟨rfl, rfl⟩
  cases h4 : (tag.toList == [116, 97, 103, 58, 121, 97, 109, 108, 46, 111, 114, 103, 44, 50, 48, 48, 50, 58, 105, 110, 116])
  case true =>
    simp only [ansB, if_true, if_false, Bool.false_eq_true]
    go_enter Yba.func5, Yba.ntmps5
    go_wp2
    go_ret
    exact ⟨rfl, rfl⟩
  cases h5 : (tag.toList == [116, 97, 103, 58, 121, 97, 109, 108, 46, 111, 114, 103, 44, 50, 48, 48, 50, 58, 102, 108, 111, 97, 116])
  case true =>
    simp only [ansB, if_true, if_false, Bool.false_eq_true]
    go_enter Yba.func5, Yba.ntmps5
    go_wp2
    go_ret
    exact ⟨rfl, rfl⟩
  cases h6 : (tag.toList == [116, 97, 103, 58, 121, 97, 109, 108, 46, 111, 114, 103, 44, 50, 48, 48, 50, 58, 115, 101, 113])
  case true =>
    simp only [ansB, if_true, if_false, Bool.false_eq_true]
    go_enter Yba.func5, Yba.ntmps5
    go_wp2
    go_ret
    exact ⟨rfl, rfl⟩
  cases h7 : (tag.toList == [116, 97, 103, 58, 121, 97, 109, 108, 46, 111, 114, 103, 44, 50, 48, 48, 50, 58, 109, 97, 112])
  case true =>
    simp only [ansB, if_true, if_false, Bool.false_eq_true]
    go_enter Yba.func5, Yba.ntmps5
    go_wp2
    go_ret
    exact ⟨rfl, rfl⟩
  simp only [ansB, if_true, if_false, Bool.false_eq_true]
  go_enter Yba.func5, Yba.ntmps5
  go_wp2
  go_ret
  exact ⟨rfl, rfl⟩

set_option maxHeartbeats 1000000 in
theorem model_any (tag : ByteArray) (k : Int) (w : World) :
    Calls Yba.prog 6 #[.string tag, .int .i64 k] w fun e w' => e = .returned (.bool (ans tag.toList k)) ∧ w' = w := by
  unfold ans
  cases h1 : (tag.toList == [116, 97, 103, 58, 121, 97, 109, 108, 46, 111, 114, 103, 44, 50, 48, 48, 50, 58, 115, 116, 114])
  case true =>
    simp only [ansB, if_true, if_false, Bool.false_eq_true]
    go_enter Yba.func6, Yba.ntmps6
    go_wp2
    go_ret
    exact ⟨rfl, rfl⟩
  cases h2 : (tag.toList == [116, 97, 103, 58, 121, 97, 109, 108, 46, 111, 114, 103, 44, 50, 48, 48, 50, 58, 110, 117, 108, 108])
  case true =>
    simp only [ansB, if_true, if_false, Bool.false_eq_true]
    go_enter Yba.func6, Yba.ntmps6
    go_wp2
    go_ret
    exact ⟨rfl, rfl⟩
  cases h3 : (tag.toList == [116, 97, 103, 58, 121, 97, 109, 108, 46, 111, 114, 103, 44, 50, 48, 48, 50, 58, 98, 111, 111, 108])
  case true =>
    simp only [ansB, if_true, if_false, Bool.false_eq_true]
    go_enter Yba.func6, Yba.ntmps6
    go_wp2
    go_ret
    exact ⟨rfl, rfl⟩
  cases h4 : (tag.toList == [116, 97, 103, 58, 121, 97, 109, 108, 46, 111, 114, 103, 44, 50, 48, 48, 50, 58, 105, 110, 116])
  case true =>
    simp only [ansB, if_true, if_false, Bool.false_eq_true]
    go_enter Yba.func6, Yba.ntmps6
    go_wp2
    go_ret
    exact ⟨rfl, rfl⟩
  cases h5 : (tag.toList == [116, 97, 103, 58, 121, 97, 109, 108, 46, 111, 114, 103, 44, 50, 48, 48, 50, 58, 102, 108, 111, 97, 116])
  case true =>
    simp only [ansB, if_true, if_false, Bool.false_eq_true]
    go_enter Yba.func6, Yba.ntmps6
    go_wp2
    go_ret
    exact ⟨rfl, rfl⟩
  cases h6 : (tag.toList == [116, 97, 103, 58, 121, 97, 109, 108, 46, 111, 114, 103, 44, 50, 48, 48, 50, 58, 115, 101, 113])
  case true =>
    simp only [ansB, if_true, if_false, Bool.false_eq_true]
    go_enter Yba.func6, Yba.ntmps6
    go_wp2
    go_ret
    exact ⟨rfl, rfl⟩
  cases h7 : (tag.toList == [116, 97, 103, 58, 121, 97, 109, 108, 46, 111, 114, 103, 44, 50, 48, 48, 50, 58, 109, 97, 112])
  case true =>
    simp only [ansB, if_true, if_false, Bool.false_eq_true]
    go_enter Yba.func6, Yba.ntmps6
    go_wp2
    go_ret
    exact ⟨rfl, rfl⟩
  simp only [ansB, if_true, if_false, Bool.false_eq_true]
  go_enter Yba.func6, Yba.ntmps6
  go_wp2
  go_ret
  exact ⟨rfl, rfl⟩

set_option maxHeartbeats 1000000 in
theorem tag_any (i : Int) (raw : ByteArray) (w : World) (h0 : 0 ≤ i) (h1 : i ≤ 9) (hr : raw.size ≤ 140737488351232) :
    Calls Yba.prog 4 #[.int .i64 i, .string raw] w fun e w' => ∃ t, e = .returned (.string t) ∧ w' = w := by
  have hc : i = 0 ∨ i = 1 ∨ i = 2 ∨ i = 3 ∨ i = 4 ∨ i = 5 ∨ i = 6 ∨ i = 7 ∨ 8 ≤ i := by omega
  rcases hc with rfl | rfl | rfl | rfl | rfl | rfl | rfl | rfl | h8
  all_goals go_enter Yba.func4, Yba.ntmps4
  all_goals go_wp2
  all_goals go_ret
  all_goals exact ⟨_, rfl, rfl⟩

set_option maxHeartbeats 1000000 in
theorem law_any (a0 : Int) (a1 : ByteArray) (a2 a3 : Int) (a4 : Bool) (w : World) (b0 : 0 ≤ a0 ∧ a0 ≤ 255) (hr : a1.size ≤ 140737488351232) (b3 : 0 ≤ a3 ∧ a3 ≤ 255) :
    Calls Yba.prog 3 #[.int .u8 a0, .string a1, .int .i64 a2, .int .u8 a3, .bool a4] w fun e w' => e = .returned (.bool true) ∧ w' = w := by
  cases a4
  all_goals go_enter Yba.func3, Yba.ntmps3
  all_goals go_wp2_with fail
  all_goals refine (tag_any _ a1 _ (by omega) (by omega) hr).mono ?_
  all_goals rintro e w1 ⟨t, rfl, rfl⟩
  all_goals go_wp2_with fail
  all_goals refine (fits_any t _ _).mono ?_
  all_goals rintro e w1 ⟨rfl, rfl⟩
  all_goals go_wp2_with fail
  all_goals refine (model_any t _ _).mono ?_
  all_goals rintro e w1 ⟨rfl, rfl⟩
  all_goals go_wp2
  all_goals go_ret
  all_goals exact ⟨by simp, rfl⟩
end Go.Proofs.Ybulkcjsw.lawS4286ATable
