import Derived.Test.YbulkcjpqFill
namespace Go.Proofs.Ybulkcjpq
open Go.RowKit Go.Deep
set_option linter.unusedVariables false
set_option linter.unusedSimpArgs false

theorem Mid.form0 {w : World} {base cb : Nat} {f : Nat → Int} {n : Nat} {v : Value} {gs : List Nat} (h : Mid w base cb f n v gs) : ∃ va cap, v = .slice va gs.length cap ∧ (0 < gs.length → ∃ g, va = some ⟨g, 0, none⟩ ∧ ∀ j b, gs[j]? = some b → w.cell? ⟨g, j, none⟩ = some (.slice (some ⟨b, 0, none⟩) 4096 4096)) := by
  rcases h.own.2 with ⟨rfl, h0⟩ | ⟨g, cap, cur, rfl, hb, _⟩
  · exact ⟨none, 0, by rw [h0], fun hp => by omega⟩
  · exact ⟨_, cap, rfl, fun _ => ⟨g, rfl, fun j b hj => h.at hj⟩⟩

set_option maxHeartbeats 1000000 in
theorem holds_any (w : World) (base cb n : Nat) (f : Nat → Int) (v : Value) (gs : List Nat) (gw cap0 : Nat) (xs : List Int) (hn : n ≤ 1000000) (hl : xs.length = n)
    (hC : Ch w base cb f n v gs) (hf : ∀ k, k < n → f k = xs.getD k 0)
    (ha : ∀ i, i < n → w.cell? ⟨gw, i, none⟩ = some (.int .i64 (xs.getD i 0))) :
    Calls Yba.prog 11 #[.pointer (some ⟨cb, 0, none⟩), .slice (some ⟨gw, 0, none⟩) n cap0] w fun e w' => e = .returned (.bool true) ∧ w' = w := by
  have c0 := two_cell0 hC.1.here
  have c1 := two_cell1 hC.1.here
  obtain ⟨va, cap, rfl, hva⟩ := hC.1.form0
  have hnb : (gs.length : Int) = ((n : Int) + 4096 - 1) / 4096 := by have := hC.2; omega
  have hlen : gs.length ≤ 1000000 := by have := hC.2; omega
  have hq : (((gs.length : Int)) != ((n : Int) + 4096 - 1) / 4096) = false := by simp [hnb]
  have HN : Hid ((gs.length : Int) = ((n : Int) + 4096 - 1) / 4096) := hnb
  clear hnb
  go_enter Yba.func11, Yba.ntmps11
  go_wp2_with fail
  go_loop [34] (fun i => ∃ k : Nat, k ≤ gs.length ∧ i = .int .i64 k) (fun i => gs.length - (intOf i).toNat)
  case atStart => exact ⟨0, Nat.zero_le _, rfl⟩
  case round =>
    obtain ⟨k, hk, rfl⟩ := hrel
    by_cases hlt : k < gs.length
    · obtain ⟨g, rfl, hrow⟩ := hva (by omega)
      have hck := hrow k _ (List.getElem?_eq_getElem hlt)
      generalize gs[k] = gk at hck
      clear hva hrow
      go_wp2
      go_round
      case rel => exact ⟨k + 1, by omega, by go_num⟩
      case measure => simp [intOf]; omega
    · go_wp2_with fail
      go_loop [44] (fun i => ∃ k : Nat, k ≤ n ∧ i = .int .i64 k) (fun i => n - (intOf i).toNat)
      case atStart => exact ⟨0, Nat.zero_le _, rfl⟩
      case round =>
        obtain ⟨j, hj, rfl⟩ := hrel
        by_cases hlt2 : j < n
        · have hjg : j / 4096 < gs.length := by have := hC.2; omega
          obtain ⟨g, rfl, hrow⟩ := hva (by omega)
          have hck := hrow _ _ (List.getElem?_eq_getElem hjg)
          have hcr := (hC.1.rows _ _ (List.getElem?_eq_getElem hjg)).2.cell (i := j % 4096) (by omega)
          generalize gs[j / 4096] = gk at hck hcr
          have hca := ha j hlt2
          have hfj := hf j hlt2
          rw [show 4096 * (j / 4096) + j % 4096 = j from by omega, hfj] at hcr
          have hjl : (j : Int) / 4096 < (gs.length : Int) := by omega
          clear hva hrow hfj
          go_wp2
          go_round
          case rel => exact ⟨j + 1, by omega, by go_num⟩
          case measure => simp [intOf]; omega
        · go_wp2
          go_ret
          exact ⟨rfl, rfl⟩
end Go.Proofs.Ybulkcjpq
