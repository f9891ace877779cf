import Derived.Test.YbulkcjpqHolds
namespace Go.Proofs.Ybulkcjpq.lawS4280CAppendAll
open Go.RowKit Go.Deep
set_option linter.unusedVariables false
set_option linter.unusedSimpArgs false

theorem walk_long (a0 : Option Addr) (len0 cap0 : Nat) (a1 : Int) (w : World) (h : 1024 < len0) :
    Calls Yba.prog 5 #[.slice a0 len0 cap0, .int .u8 a1] w fun e w' => e = .returned (.bool true) ∧ Below w.heap.size w w' := by
  go_enter Yba.func5, Yba.ntmps5
  go_wp2
  go_ret
  exact ⟨rfl, Below.refl _ _⟩

set_option maxHeartbeats 1000000 in
theorem walk_main (a : Option Addr) (len cap0 : Nat) (zs : List Int) (a1 : Int) (w : World) (h1 : 0 ≤ a1) (h2 : a1 ≤ 255) (hl : len ≤ 1024) (hz : len ≤ zs.length)
    (ha : 0 < len → ∃ b off, a = some ⟨b, off, none⟩ ∧ ∀ i, i < len → w.cell? ⟨b, off + i, none⟩ = some (.int .i64 (zs.getD i 0))) :
    Calls Yba.prog 5 #[.slice a len cap0, .int .u8 a1] w fun e w' => e = .returned (.bool true) ∧ Below w.heap.size w w' := by
  obtain ⟨m, hm1, hm2⟩ : ∃ m : Nat, a1 % 7 * 1400 = (m : Int) ∧ m ≤ 100000 := ⟨(a1 % 7 * 1400).toNat, by omega, by omega⟩
  go_enter Yba.func5, Yba.ntmps5
  go_wp2_with fail
  have HM : Hid (a1 % 7 * 1400 = (m : Int)) := hm1
  clear hm1
  refine (fill_any _ w.heap.size m len cap0 a zs hm2 hl hz (heap_alloc_new w _) ?_).mono ?_
  · intro hp
    obtain ⟨b, off, e, hc⟩ := ha hp
    have hlt := block_lt_of_cell (hc 0 hp)
    exact ⟨b, off, e, by simp at hlt; omega, fun i hi => Lib.cell?_alloc_some _ (hc i hi)⟩
  rintro e w2 ⟨rfl, hF⟩
  obtain ⟨hxl, ho, hk, f, v, gs, hC, hg, hf⟩ := hF
  generalize hxs : fill3 m ++ zs.take len = xs at hxl ho hf
  have HX : Hid (fill3 m ++ zs.take len = xs) := hxs
  clear hxs ha
  rw [World.size_alloc] at ho hC hg
  have hB : Below w.heap.size w w2 := ((Below.refl _ w).alloc (Nat.le_refl _) _).trans (hk.below (by simp) (fun k hk' e => by omega))
  go_wp2_with fail
  refine (holds_any w2 _ w.heap.size (m + len) f v gs _ _ xs (by omega) hxl hC (fun k _ => hf k) ?_).mono ?_
  · intro i hi
    rw [ho.cellAt i (by omega)]
    simp [List.getD, show i < xs.length by omega]
  rintro e w3 ⟨rfl, rfl⟩
  obtain ⟨va, cap, rfl, hva⟩ := hC.1.form0
  have c0 := two_cell0 hC.1.here
  have hlen : gs.length ≤ 1000000 := by have := hC.2; omega
  go_wp2_with fail
  go_loop [9] (fun i => ∃ k : Nat, m + len ≤ k ∧ k ≤ gs.length * 4096 ∧ i = .int .i64 k) (fun i => gs.length * 4096 - (intOf i).toNat)
  case atStart => exact ⟨m + len, Nat.le_refl _, by have := hC.2; omega, by go_num⟩
  case round =>
    obtain ⟨j, hj, hj2, rfl⟩ := hrel
    by_cases hlt2 : j < gs.length * 4096
    · have hjg : j / 4096 < gs.length := by omega
      obtain ⟨g, rfl, hrow⟩ := hva (by omega)
      have hck := hrow _ _ (List.getElem?_eq_getElem hjg)
      have hcr := (hC.1.rows _ _ (List.getElem?_eq_getElem hjg)).2.cell (i := j % 4096) (by omega)
      generalize gs[j / 4096] = gk at hck hcr
      rw [show 4096 * (j / 4096) + j % 4096 = j from by omega, hf, show xs.getD j 0 = 0 from by rw [List.getD, List.getElem?_eq_none (by omega)]; rfl] at hcr
      have hjl : (j : Int) / 4096 < (gs.length : Int) := by omega
      clear hva hrow hf hxl
      go_wp2
      go_round
      case rel => exact ⟨j + 1, by omega, by omega, by go_num⟩
      case measure => simp [intOf]; omega
    · clear hf hxl
      go_wp2
      go_ret
      exact ⟨rfl, hB⟩
end Go.Proofs.Ybulkcjpq.lawS4280CAppendAll
