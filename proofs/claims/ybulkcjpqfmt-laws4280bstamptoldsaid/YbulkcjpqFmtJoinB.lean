import Derived.Test.YbulkcjpqFmtJoinA
namespace Go.Proofs.YbulkcjpqFmt
open Go.ChangeShapes Go.WideShapes Go.ChangeAt Go.RowKit Go.Deep
set_option linter.unusedVariables false
set_option linter.unusedSimpArgs false

set_option maxHeartbeats 8000000 in
set_option maxRecDepth 20000 in
theorem join_has (an ac : Option Addr) (n cn cc gt ct gs os ct2 : Nat) (F : Nat → Nat) (c : Nat → Int) (p : Nat) (x : Int) (w : World) (hsub : Sub F n c)
    (hn : 0 < n → ∃ g o, an = some ⟨g, o, none⟩ ∧ g ≠ gt ∧ ∀ i, i < n → w.cell? ⟨g, o + i, none⟩ = some (.string (nameB (F i))))
    (hc : 0 < n → ∃ g o, ac = some ⟨g, o, none⟩ ∧ ∀ i, i < n → w.cell? ⟨g, o + i, none⟩ = some (.int .u64 (c (F i))))
    (hp : p < 3) (hgt : w.heap[gt]? = some (.cells #[.string (nameB p)] 9 (0, 0))) (hgs : w.cell? ⟨gs, os, none⟩ = some (.int .u64 x)) (hx : 1 ≤ x) (a : Nat) (ha : a < n) (hFa : F a = p) :
    Calls Ybaf.prog 13 #[.agg #[.slice an n cn, .slice ac n cc], .agg #[.slice (some ⟨gt, 0, none⟩) 1 ct, .slice (some ⟨gs, os, none⟩) 1 ct2]] w fun e w' => ∃ v, e = .returned v ∧ StampIs w' v (fun q => if q = p then max (c p) x else c q) ∧ Below w.heap.size w w' := by
  have h3 := hsub.le
  obtain ⟨g, o, rfl, hgne, hni⟩ := hn (by omega)
  obtain ⟨g2, o2, rfl, hci⟩ := hc (by omega)
  have h1n : ¬ ((n : Int) < 1) := by omega
  have hmk := mk24 n (by omega)
  obtain ⟨i24, hi24, hz0, hz1, hz2⟩ := info_parts info24
  go_enter Ybaf.func13, Ybaf.ntmps13
  go_wp2_with fail
  refine (same_any (some ⟨g, o, none⟩) n cn gt ct #[.string (nameB p)] 9 _ h3 (fun h0 => ?_) ?_).mono ?_
  · exact ⟨g, o, _, rfl, hgne, Lib.cell?_alloc_some _ (Lib.cell?_alloc_some _ (Lib.cell?_alloc_some _ (hni 0 h0)))⟩
  · have := lt_of_block hgt
    rw [Below.heap_alloc _ _ _ (by simp; omega), Below.heap_alloc _ _ _ (by simp; omega), Below.heap_alloc _ _ _ (by omega)]
    exact hgt
  rintro e w1 ⟨rfl, q, rfl⟩
  go_wp2_with fail
  go_loopw [9, 10, 11, 12] (fun v9 v10 v11 v12 wr => ∃ i j : Nat, ∃ cv, i ≤ n ∧ ((j = 0 ∧ i ≤ a ∧ v9 = .bool (decide (0 < i))) ∨ (j = 1 ∧ a < i ∧ v9 = .bool (decide (1 < i)))) ∧ v10 = .bool false ∧ v11 = .int .i64 i ∧ v12 = .int .i64 j ∧ JS w (.slice (some ⟨g, o, none⟩) n cn) (.slice (some ⟨g2, o2, none⟩) n cc) (.slice (some ⟨gt, 0, none⟩) 1 ct) (.slice (some ⟨gs, os, none⟩) 1 ct2) wr (.slice none 0 0) cv [] ((List.range i).map (fun t => cntV (fun q => if q = p then max (c p) x else c q) (F t)))) (fun _ _ i j _ => (n - (intOf i).toNat) + (1 - (intOf j).toNat))
  case atStart => exact ⟨0, 0, _, by omega, .inl ⟨rfl, by omega, rfl⟩, rfl, rfl, rfl, JS.start w _ _ _ _ q n (by omega)⟩
  case round =>
    obtain ⟨i, j, cv, hin, hph, rfl, rfl, rfl, hJ0⟩ := hrel
    obtain ⟨nc, hnc, hlen⟩ : ∃ nc, nc = (List.range i).map (fun t => cntV (fun q => if q = p then max (c p) x else c q) (F t)) ∧ nc.length = i := ⟨_, rfl, by simp⟩
    have hJ : JS w (.slice (some ⟨g, o, none⟩) n cn) (.slice (some ⟨g2, o2, none⟩) n cc) (.slice (some ⟨gt, 0, none⟩) 1 ct) (.slice (some ⟨gs, os, none⟩) 1 ct2) wr (.slice none 0 0) cv [] nc := by rw [hnc]; exact hJ0
    clear hJ0
    have HNC : Hid (nc = (List.range i).map (fun t => cntV (fun q => if q = p then max (c p) x else c q) (F t))) := hnc
    clear hnc
    have hcS0 := two_cell0 hJ.hs
    have hcS1 := two_cell1 hJ.hs
    have hcT0 := two_cell0 hJ.ht
    have hcT1 := two_cell1 hJ.ht
    have hcJ0 := two_cell0 hJ.hj
    have hcJ1 := two_cell1 hJ.hj
    have hfJ := two_free hJ.hj
    have hcR0 := two_cell0 hJ.hr
    have hcR1 := two_cell1 hJ.hr
    have hfR := two_free hJ.hr
    have nT : wr.cell? ⟨gt, 0, none⟩ = some (.string (nameB p)) := by
      rw [hJ.bel.cell (p := ⟨gt, 0, none⟩) (lt_of_block hgt)]
      simp [World.cell?, hgt]
    have cT : wr.cell? ⟨gs, os, none⟩ = some (.int .u64 x) := (hJ.bel.cell (p := ⟨gs, os, none⟩) (block_lt_of_cell hgs)).trans hgs
    have hbT : gs ≤ w.heap.size + 1 := by have := block_lt_of_cell hgs; simp at this; omega
    have hJ1a : ∀ o', (wr.alloc o').cell? ⟨w.heap.size + 1 + 1 + 1 + 1, 1, none⟩ = some cv := fun o' => Lib.cell?_alloc_some o' hcJ1
    have hJ1 : ∀ m o', ((wr.drewN m).alloc o').cell? ⟨w.heap.size + 1 + 1 + 1 + 1, 1, none⟩ = some cv := fun m o' => Lib.cell?_alloc_some (W := wr.drewN m) o' hcJ1
    have hbS : g2 ≤ w.heap.size + 1 := by have := block_lt_of_cell (hci 0 (by omega)); simp at this; omega
    rcases hph with ⟨rfl, hia, rfl⟩ | ⟨rfl, hia, rfl⟩
    · have hlt : i < n := by omega
      have nS : wr.cell? ⟨g, o + i, none⟩ = some (.string (nameB (F i))) := (hJ.bel.cell (p := ⟨g, o + i, none⟩) (block_lt_of_cell (hni i hlt))).trans (hni i hlt)
      have cS : wr.cell? ⟨g2, o2 + i, none⟩ = some (.int .u64 (c (F i))) := (hJ.bel.cell (p := ⟨g2, o2 + i, none⟩) (block_lt_of_cell (hci i hlt))).trans (hci i hlt)
      by_cases hi : i < a
      · have hFl : F i < p := by rw [← hFa]; exact hsub.mono i a hi ha
        have hcm : cmpI (F i) p = -1 := by simp [cmpI]; omega
        have hF3 := hsub.lt i hlt
        go_wp2_with fail
        go_quiet (first | (go_at_call 24; exact Calls.quiet_of_same (cmpS_any (F i) p hF3 hp _)))
        go_wp2_with fail
        go_region_law (refine step_cnt (u := .int .u64 (c (F i))) rfl (.tmp 175) (.tmp 181) rfl hJ (by simp [Act.eval, Act.put]) (by simp [Act.eval, Act.put]) rfl (by omega) rfl rfl rfl rfl ?_; (intro g' cap w3 hJ3 hce hfr hLo; have HJ3 := Hid.intro hJ3; clear hJ3))
        all_goals (
          go_wp2
          go_roundw
          case rel => exact ⟨i + 1, 0, .slice (some ⟨g', 0, none⟩) (i + 1) cap, by omega, .inl ⟨rfl, by omega, by simp⟩, rfl, by go_num, rfl, HJ3.out.cast (by rw [hlen]) rfl (by rw [hlen]) rfl (by rw [HNC.out, List.range_succ, List.map_append]; simp [cntV]; omega)⟩
          case measure => simp [intOf]; omega)
      · obtain rfl : i = a := by omega
        have hcm : cmpI p p = 0 := by simp [cmpI]
        rw [hFa] at nS cS
        have HFA := Hid.intro hFa
        clear hFa
        go_wp2_with fail
        go_quiet (first | (go_at_call 24; exact Calls.quiet_of_same (cmpS_any p p hp hp _)))
        go_wp2_with fail
        have HS4 : Hid (∀ w', Lo w wr w' → w'.cell? ⟨w.heap.size, 1, none⟩ = some (.slice (some ⟨g2, o2, none⟩) n cc) ∧ w'.cell? ⟨g2, o2 + i, none⟩ = some (.int .u64 (c p)) ∧ w'.cell? ⟨w.heap.size + 1, 1, none⟩ = some (.slice (some ⟨gs, os, none⟩) 1 ct2) ∧ w'.cell? ⟨gs, os, none⟩ = some (.int .u64 x)) := fun W' hL => ⟨k1 w hcS1 (by simp) hL, k1 w cS hbS hL, k1 w hcT1 (by simp) hL, k1 w cT hbT hL⟩
        refine wp_region_held_drew (S := fun w' => w'.cell? ⟨w.heap.size, 1, none⟩ = some (.slice (some ⟨g2, o2, none⟩) n cc) ∧ w'.cell? ⟨g2, o2 + i, none⟩ = some (.int .u64 (c p)) ∧ w'.cell? ⟨w.heap.size + 1, 1, none⟩ = some (.slice (some ⟨gs, os, none⟩) 1 ct2) ∧ w'.cell? ⟨gs, os, none⟩ = some (.int .u64 x)) (by kernel_rfl) (HS4.out _ (fun _ _ _ h => h)) (fun hHeld => ?_)
        clear hHeld
        refine wpAnyH_take (i := 0) (v := ?_) rfl (by kernel_rfl) (by kernel_rfl) (by kernel_rfl) (fun _ _ _ h => h) (Or.inl ⟨by rfl, ?_⟩) (HS4.out _ (fun _ _ _ h => h)) ?_
        rotate_left
        · (intro w hSw; (try dsimp only at hSw); go_simp; try with_reducible rfl)
        simp only [Act.put, List.setIfInBounds_toArray, List.set_cons_zero, List.set_cons_succ]
        refine wpAnyH_take (i := 2) (v := ?_) rfl (by kernel_rfl) (by kernel_rfl) (by kernel_rfl) (fun _ _ _ h => h) (Or.inl ⟨by rfl, ?_⟩) (HS4.out _ (fun _ _ _ h => h)) ?_
        rotate_left
        · (intro w hSw; (try dsimp only at hSw); go_simp; try with_reducible rfl)
        simp only [Act.put, List.setIfInBounds_toArray, List.set_cons_zero, List.set_cons_succ]
        refine wpAnyH_take (i := 3) (v := ?_) rfl (by kernel_rfl) (by kernel_rfl) (by kernel_rfl) (fun _ _ _ h => h) (Or.inl ⟨by rfl, ?_⟩) (HS4.out _ (fun _ _ _ h => h)) ?_
        rotate_left
        · (intro w hSw; (try dsimp only at hSw); go_simp; try with_reducible rfl)
        simp only [Act.put, List.setIfInBounds_toArray, List.set_cons_zero, List.set_cons_succ]
        refine wpAnyH_take (i := 4) (v := ?_) rfl (by kernel_rfl) (by kernel_rfl) (by kernel_rfl) (fun _ _ _ h => h) (Or.inl ⟨by rfl, ?_⟩) (HS4.out _ (fun _ _ _ h => h)) ?_
        rotate_left
        · (intro w hSw; (try dsimp only at hSw); go_simp; try with_reducible rfl)
        simp only [Act.put, List.setIfInBounds_toArray, List.set_cons_zero, List.set_cons_succ]
        refine wpAnyH_take (i := 5) (v := ?_) rfl (by kernel_rfl) (by kernel_rfl) (by kernel_rfl) (fun _ _ _ h => h) (Or.inl ⟨by rfl, ?_⟩) (HS4.out _ (fun _ _ _ h => h)) ?_
        rotate_left
        · (intro w hSw; (try dsimp only at hSw); go_simp; try with_reducible rfl)
        simp only [Act.put, List.setIfInBounds_toArray, List.set_cons_zero, List.set_cons_succ]
        refine wpAnyH_take (i := 6) (v := ?_) rfl (by kernel_rfl) (by kernel_rfl) (by kernel_rfl) (fun _ _ _ h => h) (Or.inl ⟨by rfl, ?_⟩) (HS4.out _ (fun _ _ _ h => h)) ?_
        rotate_left
        · (intro w hSw; (try dsimp only at hSw); go_simp; try with_reducible rfl)
        simp only [Act.put, List.setIfInBounds_toArray, List.set_cons_zero, List.set_cons_succ]
        refine wpAnyH_take (i := 7) (v := ?_) rfl (by kernel_rfl) (by kernel_rfl) (by kernel_rfl) (fun _ _ _ h => h) (Or.inl ⟨by rfl, ?_⟩) (HS4.out _ (fun _ _ _ h => h)) ?_
        rotate_left
        · (intro w hSw; (try dsimp only at hSw); go_simp; try with_reducible rfl)
        simp only [Act.put, List.setIfInBounds_toArray, List.set_cons_zero, List.set_cons_succ]
        refine wpAnyH_take (i := 8) (v := ?_) rfl (by kernel_rfl) (by kernel_rfl) (by kernel_rfl) (fun _ _ _ h => h) (Or.inl ⟨by rfl, ?_⟩) (HS4.out _ (fun _ _ _ h => h)) ?_
        rotate_left
        · (intro w hSw; (try dsimp only at hSw); go_simp; try with_reducible rfl)
        simp only [Act.put, List.setIfInBounds_toArray, List.set_cons_zero, List.set_cons_succ]
        refine wpAnyH_take (i := 9) (v := ?_) rfl (by kernel_rfl) (by kernel_rfl) (by kernel_rfl) (fun _ _ _ h => h) (Or.inl ⟨by rfl, ?_⟩) (HS4.out _ (fun _ _ _ h => h)) ?_
        rotate_left
        · (intro w hSw; (try dsimp only at hSw); go_simp; try with_reducible rfl)
        simp only [Act.put, List.setIfInBounds_toArray, List.set_cons_zero, List.set_cons_succ]
        refine wpAnyH_take (i := 10) (v := ?_) rfl (by kernel_rfl) (by kernel_rfl) (by kernel_rfl) (fun _ _ _ h => h) (Or.inl ⟨by rfl, ?_⟩) (HS4.out _ (fun _ _ _ h => h)) ?_
        rotate_left
        · (intro w hSw; (try dsimp only at hSw); go_simp; try with_reducible rfl)
        simp only [Act.put, List.setIfInBounds_toArray, List.set_cons_zero, List.set_cons_succ]
        refine wpAnyH_take (i := 11) (v := ?_) rfl (by kernel_rfl) (by kernel_rfl) (by kernel_rfl) (fun _ _ _ h => h) (Or.inl ⟨by rfl, ?_⟩) (HS4.out _ (fun _ _ _ h => h)) ?_
        rotate_left
        · (intro w hSw; (try dsimp only at hSw); go_simp; try with_reducible rfl)
        simp only [Act.put, List.setIfInBounds_toArray, List.set_cons_zero, List.set_cons_succ]
        refine wpAnyH_take (i := 12) (v := ?_) rfl (by kernel_rfl) (by kernel_rfl) (by kernel_rfl) (fun _ _ _ h => h) (Or.inl ⟨by rfl, ?_⟩) (HS4.out _ (fun _ _ _ h => h)) ?_
        rotate_left
        · (intro w hSw; (try dsimp only at hSw); go_simp; try with_reducible rfl)
        simp only [Act.put, List.setIfInBounds_toArray, List.set_cons_zero, List.set_cons_succ]
        refine wpAnyH_ready (rs := [1, 13]) (by kernel_rfl) (by simp) ?_
        refine AllReadyH.cons rfl (fun K hK => ?_) (AllReadyH.cons rfl (fun K hK => ?_) AllReadyH.nil)
        · go_simp
          refine hK.out _ _ (HS4.out _ (fun _ _ _ h => h)) (fun _ => ?_)
          clear hK K
          try simp only [Act.put, List.setIfInBounds_toArray, List.set_cons_zero, List.set_cons_succ]
          refine wpAnyH_ready (rs := [13]) (by kernel_rfl) (by simp) ?_
          refine AllReadyH.cons rfl (fun K hK => ?_) AllReadyH.nil
          go_simp
          refine hK.out _ _ (HS4.out _ (fun _ _ _ h => Lib.cell?_alloc_some _ h)) (fun _ => ?_)
          clear hK K
          try simp only [Act.put, List.setIfInBounds_toArray, List.set_cons_zero, List.set_cons_succ]
          refine wpAnyH_ready (rs := [14]) (by kernel_rfl) (by simp) ?_
          refine AllReadyH.cons rfl (fun K hK => ?_) AllReadyH.nil
          refine step_cnt (u := .int .u64 (if c p < x then x else c p)) rfl (.tmp 117) (.tmp 129) rfl hJ (by simp [Act.eval, Act.put]) (by simp [Act.eval, Act.put]) rfl (by omega) rfl rfl rfl rfl ?_; (intro g' cap w3 hJ3 hce hfr hLo; have HJ3 := Hid.intro hJ3; have HLO := Hid.intro hLo; clear hJ3 hLo)
          refine hK.out _ _ (HS4.out _ (HLO.out)) (fun _ => ?_)
          clear hK K
          try simp only [Act.put, List.setIfInBounds_toArray, List.set_cons_zero, List.set_cons_succ]
          refine wpAnyH_take (i := 15) (v := ?_) rfl (by kernel_rfl) (by kernel_rfl) (by kernel_rfl) (fun _ _ _ h => h) (Or.inl ⟨by rfl, ?_⟩) (HS4.out _ HLO.out) ?_
          rotate_left
          · (intro w hSw; (try dsimp only at hSw); go_simp; try with_reducible rfl)
          try simp only [Act.put, List.setIfInBounds_toArray, List.set_cons_zero, List.set_cons_succ]
          refine wpAnyH_ready (rs := [16]) (by kernel_rfl) (by simp) ?_
          refine AllReadyH.cons rfl (fun K hK => ?_) AllReadyH.nil
          go_simp
          refine hK.out _ _ (HS4.out _ (HLO.out.set _ _)) (fun _ => ?_)
          clear hK K
          try simp only [Act.put, List.setIfInBounds_toArray, List.set_cons_zero, List.set_cons_succ]
          refine wpAnyH_done (by kernel_rfl) ?_ _
          go_wp2
          go_roundw
          case rel => exact ⟨i + 1, 1, .slice (some ⟨g', 0, none⟩) (i + 1) cap, by omega, .inr ⟨rfl, by omega, by simp⟩, rfl, by go_num, rfl, HJ3.out.cast (by rw [hlen]) rfl (by rw [hlen]) rfl (by have := HFA.out; rw [HNC.out, List.range_succ, List.map_append]; simp [cntV, this]; (split <;> omega))⟩
          case measure => simp [intOf]; omega
        · go_simp
          refine hK.out _ _ (HS4.out _ (fun _ _ _ h => Lib.cell?_alloc_some _ h)) (fun _ => ?_)
          clear hK K
          try simp only [Act.put, List.setIfInBounds_toArray, List.set_cons_zero, List.set_cons_succ]
          refine wpAnyH_ready (rs := [1]) (by kernel_rfl) (by simp) ?_
          refine AllReadyH.cons rfl (fun K hK => ?_) AllReadyH.nil
          go_simp
          refine hK.out _ _ (HS4.out _ (fun _ _ _ h => Lib.cell?_alloc_some _ h)) (fun _ => ?_)
          clear hK K
          try simp only [Act.put, List.setIfInBounds_toArray, List.set_cons_zero, List.set_cons_succ]
          refine wpAnyH_ready (rs := [14]) (by kernel_rfl) (by simp) ?_
          refine AllReadyH.cons rfl (fun K hK => ?_) AllReadyH.nil
          refine step_cnt (u := .int .u64 (if c p < x then x else c p)) rfl (.tmp 117) (.tmp 129) rfl hJ (by simp [Act.eval, Act.put]) (by simp [Act.eval, Act.put]) rfl (by omega) rfl rfl rfl rfl ?_; (intro g' cap w3 hJ3 hce hfr hLo; have HJ3 := Hid.intro hJ3; have HLO := Hid.intro hLo; clear hJ3 hLo)
          refine hK.out _ _ (HS4.out _ (HLO.out)) (fun _ => ?_)
          clear hK K
          try simp only [Act.put, List.setIfInBounds_toArray, List.set_cons_zero, List.set_cons_succ]
          refine wpAnyH_take (i := 15) (v := ?_) rfl (by kernel_rfl) (by kernel_rfl) (by kernel_rfl) (fun _ _ _ h => h) (Or.inl ⟨by rfl, ?_⟩) (HS4.out _ HLO.out) ?_
          rotate_left
          · (intro w hSw; (try dsimp only at hSw); go_simp; try with_reducible rfl)
          try simp only [Act.put, List.setIfInBounds_toArray, List.set_cons_zero, List.set_cons_succ]
          refine wpAnyH_ready (rs := [16]) (by kernel_rfl) (by simp) ?_
          refine AllReadyH.cons rfl (fun K hK => ?_) AllReadyH.nil
          go_simp
          refine hK.out _ _ (HS4.out _ (HLO.out.set _ _)) (fun _ => ?_)
          clear hK K
          try simp only [Act.put, List.setIfInBounds_toArray, List.set_cons_zero, List.set_cons_succ]
          refine wpAnyH_done (by kernel_rfl) ?_ _
          go_wp2
          go_roundw
          case rel => exact ⟨i + 1, 1, .slice (some ⟨g', 0, none⟩) (i + 1) cap, by omega, .inr ⟨rfl, by omega, by simp⟩, rfl, by go_num, rfl, HJ3.out.cast (by rw [hlen]) rfl (by rw [hlen]) rfl (by have := HFA.out; rw [HNC.out, List.range_succ, List.map_append]; simp [cntV, this]; (split <;> omega))⟩
          case measure => simp [intOf]; omega
    · by_cases hlt : i < n
      · have nS : wr.cell? ⟨g, o + i, none⟩ = some (.string (nameB (F i))) := (hJ.bel.cell (p := ⟨g, o + i, none⟩) (block_lt_of_cell (hni i hlt))).trans (hni i hlt)
        have cS : wr.cell? ⟨g2, o2 + i, none⟩ = some (.int .u64 (c (F i))) := (hJ.bel.cell (p := ⟨g2, o2 + i, none⟩) (block_lt_of_cell (hci i hlt))).trans (hci i hlt)
        have hne : F i ≠ p := by rw [← hFa]; exact fun e => by have := hsub.mono a i hia hlt; omega
        have HNE := Hid.intro hne
        clear hne
        go_wp2_with fail
        go_region_law (refine step_cnt (u := .int .u64 (c (F i))) rfl (.tmp 175) (.tmp 181) rfl hJ (by simp [Act.eval, Act.put]) (by simp [Act.eval, Act.put]) rfl (by omega) rfl rfl rfl rfl ?_; (intro g' cap w3 hJ3 hce hfr hLo; have HJ3 := Hid.intro hJ3; clear hJ3))
        all_goals (
          go_wp2
          go_roundw
          case rel => exact ⟨i + 1, 1, .slice (some ⟨g', 0, none⟩) (i + 1) cap, by omega, .inr ⟨rfl, by omega, by simp; omega⟩, rfl, by go_num, rfl, HJ3.out.cast (by rw [hlen]) rfl (by rw [hlen]) rfl (by have := HNE.out; rw [HNC.out, List.range_succ, List.map_append]; simp [cntV, this])⟩
          case measure => simp [intOf]; omega)
      · obtain rfl : i = n := by omega
        obtain ⟨gc, capc, rfl⟩ := hJ.form (by omega)
        rw [hlen] at hJ hcJ1 hJ1 hJ1a
        have HJ := Hid.intro hJ
        have HSUB := Hid.intro hsub
        have HNI := Hid.intro hni
        clear hJ hsub hni hci hn hc hJ1 hJ1a
        by_cases h1 : i = 1
        · have hd : decide (1 < i) = false := by simp; omega
          subst h1
          obtain rfl : a = 0 := by omega
          have hFin := HJ.out.finish (W := _) (nvF := .slice (some ⟨gt, 0, none⟩) 1 ct) (G := F) hlen (HSUB.out.has ha hFa hx) HNC.out ⟨_, _, rfl, fun _ => ⟨gt, 0, rfl, fun t ht => (by
            obtain rfl : t = 0 := by omega
            show wr.cell? ⟨gt, 0, none⟩ = some (Value.string (nameB (F 0)))
            rw [hFa]
            exact nT)⟩⟩ (HJ.out.ends (.slice (some ⟨gt, 0, none⟩) 1 ct) (.slice (some ⟨gt, 0, none⟩) 1 ct) (.slice (some ⟨gc, 0, none⟩) 1 capc)).1
          have HF := Hid.intro hFin
          clear hFin
          go_wp2
          exact bodyPost_ret (v := .agg #[.slice (some ⟨gt, 0, none⟩) 1 ct, .slice (some ⟨gc, 0, none⟩) 1 capc]) (by simp [results, Ybaf.results13, go_sem, hcR0, hcR1]) rfl ⟨_, rfl, HF.out, (HJ.out.ends _ _ _).2⟩
        · have hd : decide (1 < i) = true := by simp; omega
          have hFin := HJ.out.finish (W := _) (nvF := .slice (some ⟨g, o, none⟩) i cn) (G := F) hlen (HSUB.out.has ha hFa hx) HNC.out (SliceIs.of_below ⟨_, _, rfl, fun _ => ⟨g, o, rfl, HNI.out⟩⟩ HJ.out.bel) (HJ.out.ends (.slice (some ⟨g, o, none⟩) i cn) (.slice (some ⟨g, o, none⟩) i cn) (.slice (some ⟨gc, 0, none⟩) i capc)).1
          have HF := Hid.intro hFin
          clear hFin
          go_wp2
          exact bodyPost_ret (v := .agg #[.slice (some ⟨g, o, none⟩) i cn, .slice (some ⟨gc, 0, none⟩) i capc]) (by simp [results, Ybaf.results13, go_sem, hcR0, hcR1]) rfl ⟨_, rfl, HF.out, (HJ.out.ends _ _ _).2⟩
end Go.Proofs.YbulkcjpqFmt
