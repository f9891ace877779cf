import Derived.Test.YbulkcjpqFmtLast2
import Derived.LaidEql
namespace Go.Proofs.YbulkcjpqFmt
open Go.ChangeShapes Go.WideShapes Go.ChangeAt Go.RowKit
set_option linter.unusedVariables false
set_option linter.unusedSimpArgs false

theorem ext00 (w : World) : (callFunc 31 #[.string (nameB 0), .string (nameB 0)]).run Ybaf.prog w = .ok (.value (.int .i64 (cmpI (0 : Nat) (0 : Nat)))) w := by kernel_rfl
theorem ext01 (w : World) : (callFunc 31 #[.string (nameB 0), .string (nameB 1)]).run Ybaf.prog w = .ok (.value (.int .i64 (cmpI (0 : Nat) (1 : Nat)))) w := by kernel_rfl
theorem ext02 (w : World) : (callFunc 31 #[.string (nameB 0), .string (nameB 2)]).run Ybaf.prog w = .ok (.value (.int .i64 (cmpI (0 : Nat) (2 : Nat)))) w := by kernel_rfl
theorem ext10 (w : World) : (callFunc 31 #[.string (nameB 1), .string (nameB 0)]).run Ybaf.prog w = .ok (.value (.int .i64 (cmpI (1 : Nat) (0 : Nat)))) w := by kernel_rfl
theorem ext11 (w : World) : (callFunc 31 #[.string (nameB 1), .string (nameB 1)]).run Ybaf.prog w = .ok (.value (.int .i64 (cmpI (1 : Nat) (1 : Nat)))) w := by kernel_rfl
theorem ext12 (w : World) : (callFunc 31 #[.string (nameB 1), .string (nameB 2)]).run Ybaf.prog w = .ok (.value (.int .i64 (cmpI (1 : Nat) (2 : Nat)))) w := by kernel_rfl
theorem ext20 (w : World) : (callFunc 31 #[.string (nameB 2), .string (nameB 0)]).run Ybaf.prog w = .ok (.value (.int .i64 (cmpI (2 : Nat) (0 : Nat)))) w := by kernel_rfl
theorem ext21 (w : World) : (callFunc 31 #[.string (nameB 2), .string (nameB 1)]).run Ybaf.prog w = .ok (.value (.int .i64 (cmpI (2 : Nat) (1 : Nat)))) w := by kernel_rfl
theorem ext22 (w : World) : (callFunc 31 #[.string (nameB 2), .string (nameB 2)]).run Ybaf.prog w = .ok (.value (.int .i64 (cmpI (2 : Nat) (2 : Nat)))) w := by kernel_rfl

theorem ext_any (a b : Nat) (ha : a < 3) (hb : b < 3) (w : World) : (callFunc 31 #[.string (nameB a), .string (nameB b)]).run Ybaf.prog w = .ok (.value (.int .i64 (cmpI a b))) w := by
  rcases three ha with rfl | rfl | rfl <;> rcases three hb with rfl | rfl | rfl
  · exact ext00 w
  · exact ext01 w
  · exact ext02 w
  · exact ext10 w
  · exact ext11 w
  · exact ext12 w
  · exact ext20 w
  · exact ext21 w
  · exact ext22 w

theorem cmpS_any (a b : Nat) (ha : a < 3) (hb : b < 3) (w : World) : Calls Ybaf.prog 24 #[.string (nameB a), .string (nameB b)] w fun e w' => e = .returned (.int .i64 (cmpI a b)) ∧ w' = w := by
  have hx := fun w => ext_any a b ha hb w
  go_enter Ybaf.func24, Ybaf.ntmps24
  go_wp2
  go_ret
  exact ⟨rfl, rfl⟩


theorem same_addr_new {P : Program} {w : World} {a b : Addr} {cb : Array Value} {tb : TypeId} {u : Value} (hs : a.spot = none) (hne : a.block ≠ b.block) (ha : w.cell? a = some u) (hb : w.heap[b.block]? = some (.cells cb tb (0, 0))) :
    (sameAddr a b).run P w = .ok false w := by
  unfold World.cell? at ha
  split at ha
  · rename_i c t fr he
    simp [hs] at ha
    obtain ⟨hlt, _⟩ := Array.getElem?_eq_some_iff.1 ha
    obtain ⟨lo, hi⟩ := fr
    have h0 : (c.size == 0) = false := beq_false_of_ne (by omega)
    have hc : ¬ c.size = 0 := by omega
    have hc' : c ≠ #[] := fun e => hc (by simp [e])
    simp [sameAddr, hne, World.frozen?, he, hb, noView, viewAt, World.shape?, mayBeOne, stringish, h0, hc, hc']
    try (split <;> simp_all)
  · cases ha

theorem size9 : (Ybaf.prog.info? 9).map (·.size) = some 1 := by kernel_rfl

theorem eql_ptr_new {w : World} {a b : Addr} {cb : Array Value} {tb : TypeId} {u : Value} (hs : a.spot = none) (hne : a.block ≠ b.block) (ha : w.cell? a = some u) (hb : w.heap[b.block]? = some (.cells cb tb (0, 0))) :
    (binOp .eql 90 (.pointer (some a)) (.pointer (some b))).run Ybaf.prog w = .ok (.bool false) w := by
  obtain ⟨j, hj, hjs⟩ := Option.map_eq_some_iff.1 size9
  have h : ∀ d : Nat, (Op.equalIn (d + 1) 90 (.pointer (some a)) (.pointer (some b))).run Ybaf.prog w = .ok false w := fun d => by
    simp [Op.equalIn, run_underlying Ybaf.underlying90, sizeOf, typeInfo, hj, hjs, same_addr_new hs hne ha hb]
  simp only [binOp]
  simp [Op.equal, Op.maxDepth, h 9999]

set_option maxHeartbeats 1000000 in
theorem same_any (an : Option Addr) (n cn gt ct : Nat) (cb : Array Value) (tb : TypeId) (w : World) (hn : n ≤ 3) (ha : 0 < n → ∃ g o u, an = some ⟨g, o, none⟩ ∧ g ≠ gt ∧ w.cell? ⟨g, o, none⟩ = some u) (hb : w.heap[gt]? = some (.cells cb tb (0, 0))) :
    Calls Ybaf.prog 23 #[.slice an n cn, .slice (some ⟨gt, 0, none⟩) 1 ct] w fun e w' => e = .returned (.bool false) ∧ ∃ q, w' = w.drewN q := by
  by_cases h1 : n = 1
  · subst h1
    obtain ⟨g, o, u, rfl, hne, hu⟩ := ha (by omega)
    have he := fun (q : Nat) => eql_ptr_new (w := w.drewN q) (a := ⟨g, o, none⟩) (b := ⟨gt, 0, none⟩) (cb := cb) (tb := tb) (u := u) rfl hne hu hb
    go_enter Ybaf.func23, Ybaf.ntmps23
    go_wp2_with fail
    go_quiet (fail)
    go_wp2
    go_ret
    exact ⟨rfl, nq, rfl⟩
  · have hd : ((n : Int) == 1) = false := by simp; omega
    go_enter Ybaf.func23, Ybaf.ntmps23
    go_wp2_with fail
    go_quiet (fail)
    go_wp2
    go_ret
    exact ⟨rfl, nq, rfl⟩

end Go.Proofs.YbulkcjpqFmt
