import Derived.Test.YbulkcjpqFmtJoinR1
import Derived.Test.YbulkcjpqFmtJoinR2
import Derived.Test.YbulkcjpqFmtJoinR3
import Derived.Test.YbulkcjpqFmtJoinR4
import Derived.Deep.CutBlock
namespace Go.Proofs.YbulkcjpqFmt
open Go.ChangeShapes Go.WideShapes Go.ChangeAt Go.RowKit Go.Deep
set_option linter.unusedVariables false
set_option linter.unusedSimpArgs false

/-- The state of Join's loop where p is new: a names are before it. -/
def NewInv (w : World) (sn sc tn tc : Value) (F : Nat → Nat) (c : Nat → Int) (p : Nat) (x : Int) (n a i j : Nat) (nv cv : Value) (wr : World) : Prop :=
  (j = 0 ∧ i ≤ a ∧ nv = .slice none 0 0 ∧ JS w sn sc tn tc wr nv cv [] ((List.range i).map (fun t => cntV (fun q => if q = p then max (c p) x else c q) (G3 F p a t)))) ∨
  (j = 1 ∧ a ≤ i ∧ i = 0 ∧ nv = .slice none 0 0 ∧ JS w sn sc tn tc wr nv cv [] ((List.range (i + 1)).map (fun t => cntV (fun q => if q = p then max (c p) x else c q) (G3 F p a t)))) ∨
  (j = 1 ∧ a ≤ i ∧ 0 < i ∧ (∃ g cap, nv = .slice (some ⟨g, 0, none⟩) (i + 1) cap) ∧ JS w sn sc tn tc wr nv cv ((List.range (i + 1)).map (fun t => namV (G3 F p a t))) ((List.range (i + 1)).map (fun t => cntV (fun q => if q = p then max (c p) x else c q) (G3 F p a t))))

set_option maxHeartbeats 16000000 in
set_option maxRecDepth 20000 in
theorem join_new0 (an ac : Option Addr) (n cn cc gt ct gs os ct2 : Nat) (F : Nat → Nat) (c : Nat → Int) (p : Nat) (x : Int) (w : World) (hsub : Sub F n c) (hcn : n ≤ cn) (hcn2 : cn ≤ 9223372036854775807)
    (hn : 0 < n → ∃ g o, an = some ⟨g, o, none⟩ ∧ g ≠ gt ∧ ∀ i, i < n → w.cell? ⟨g, o + i, none⟩ = some (.string (nameB (F i))))
    (hc : 0 < n → ∃ g o, ac = some ⟨g, o, none⟩ ∧ ∀ i, i < n → w.cell? ⟨g, o + i, none⟩ = some (.int .u64 (c (F i))))
    (hp : p < 3) (hgt : w.heap[gt]? = some (.cells #[.string (nameB p)] 9 (0, 0))) (hgs : w.cell? ⟨gs, os, none⟩ = some (.int .u64 x)) (hx : 1 ≤ x) (a : Nat) (ha0 : a = 0) (hlo : ∀ t, t < a → F t < p) (hhi : ∀ t, a ≤ t → t < n → p < F t) (hct : 1 ≤ ct) (hct2 : ct ≤ 100) :
    Calls Ybaf.prog 13 #[.agg #[.slice an n cn, .slice ac n cc], .agg #[.slice (some ⟨gt, 0, none⟩) 1 ct, .slice (some ⟨gs, os, none⟩) 1 ct2]] w fun e w' => ∃ v, e = .returned v ∧ StampIs w' v (fun q => if q = p then max (c p) x else c q) ∧ Below w.heap.size w w' := by
  have h3 := hsub.le
  have ha : a ≤ n := by omega
  have hcp : c p = 0 := Classical.byContradiction fun hne => by
    obtain ⟨i, hi, e⟩ := hsub.all p hp hne
    by_cases h1 : i < a
    · have := hlo i h1; omega
    · have := hhi i (by omega) hi; omega
  obtain ⟨k0, hk0, hk1⟩ : ∃ k0 : Nat, k0 ≤ 3 ∧ (if (n : Int) < 1 then (1 : Int) else (n : Int)) = (k0 : Int) := by
    by_cases e : (n : Int) < 1
    · exact ⟨1, by omega, by rw [if_pos e]; rfl⟩
    · exact ⟨n, by omega, by rw [if_neg e]⟩
  have hmk := mk24 k0 (by omega)
  subst ha0
  have HC := Hid.intro hcp
  have HLO := Hid.intro hlo
  have HHI := Hid.intro hhi
  clear hcp hlo hhi
  go_enter Ybaf.func13, Ybaf.ntmps13
  go_wp2_with fail
  refine (same_any an n cn gt ct #[.string (nameB p)] 9 _ h3 (fun h0 => ?_) ?_).mono ?_
  · obtain ⟨g, o, rfl, hgne, hni⟩ := hn h0
    exact ⟨g, o, _, rfl, hgne, Lib.cell?_alloc_some _ (Lib.cell?_alloc_some _ (Lib.cell?_alloc_some _ (hni 0 h0)))⟩
  · have := lt_of_block hgt
    rw [Below.heap_alloc _ _ _ (by simp; omega), Below.heap_alloc _ _ _ (by simp; omega), Below.heap_alloc _ _ _ (by omega)]
    exact hgt
  rintro e w1 ⟨rfl, q, rfl⟩
  go_wp2_with fail
  have nTo : Hid (∀ wr, Below w.heap.size w wr → wr.cell? ⟨gt, 0, none⟩ = some (.string (nameB p))) := fun wr hB => by
    rw [hB.cell (p := ⟨gt, 0, none⟩) (lt_of_block hgt)]
    simp [World.cell?, hgt]
  have cTo : Hid (∀ wr, Below w.heap.size w wr → wr.cell? ⟨gs, os, none⟩ = some (.int .u64 x)) := fun wr hB => (hB.cell (p := ⟨gs, os, none⟩) (block_lt_of_cell hgs)).trans hgs
  have hbT : gs ≤ w.heap.size + 1 := by have := block_lt_of_cell hgs; simp at this; omega
  have HN : Hid (0 < n → ∃ g o, an = some ⟨g, o, none⟩ ∧ g ≠ gt ∧ ∀ i, i < n → w.cell? ⟨g, o + i, none⟩ = some (.string (nameB (F i)))) := hn
  have HCC : Hid (0 < n → ∃ g o, ac = some ⟨g, o, none⟩ ∧ ∀ i, i < n → w.cell? ⟨g, o + i, none⟩ = some (.int .u64 (c (F i)))) := hc
  have HSUB := Hid.intro hsub
  have heq : ∀ (W : World) (b : Option Addr) (m k : Nat), (binOp .eql 33 (.slice b m k) (.slice none 0 0)).run Ybaf.prog W = .ok (.bool b.isNone) W := fun W b m k => by
    simp only [binOp]
    simp [Op.equal, Op.maxDepth, Lib.run_equalIn_slice_nil W 9999 33 9 b m k 0 0 Ybaf.underlying33]
  clear hn hc hsub hgt hgs
  go_loopw [9, 10, 11, 12] (fun v9 v10 v11 v12 wr => ∃ i j : Nat, ∃ nv cv, i ≤ n ∧ v9 = .bool (decide (0 < i)) ∧ v10 = .bool (decide (j = 1)) ∧ v11 = .int .i64 i ∧ v12 = .int .i64 j ∧ NewInv w (.slice an n cn) (.slice ac n cc) (.slice (some ⟨gt, 0, none⟩) 1 ct) (.slice (some ⟨gs, os, none⟩) 1 ct2) F c p x n 0 i j nv cv wr) (fun _ _ i j _ => (n - (intOf i).toNat) + (1 - (intOf j).toNat))
  case atStart => exact ⟨0, 0, .slice none 0 0, .slice (some ⟨w.heap.size + 1 + 1 + 1, 0, none⟩) 0 k0, by omega, rfl, rfl, rfl, rfl, .inl ⟨rfl, by omega, rfl, JS.start w _ _ _ _ q k0 (by omega)⟩⟩
  case round =>
    obtain ⟨i, j, nv, cv, hin, rfl, rfl, rfl, rfl, hinv⟩ := hrel
    clear hmk
    rcases hinv with ⟨rfl, hia, rfl, hJ0⟩ | ⟨rfl, hia, hi0, rfl, hJ0⟩ | ⟨rfl, hia, hi0, ⟨gn, capn, rfl⟩, hJ0⟩
    · obtain rfl : i = 0 := by omega
      obtain ⟨nc, hnc, hlen⟩ : ∃ nc, nc = (List.range 0).map (fun t => cntV (fun q => if q = p then max (c p) x else c q) (G3 F p 0 t)) ∧ nc.length = 0 := ⟨_, rfl, by simp⟩
      have hJ : JS w (.slice an n cn) (.slice ac n cc) (.slice (some ⟨gt, 0, none⟩) 1 ct) (.slice (some ⟨gs, os, none⟩) 1 ct2) wr (.slice none 0 0) cv [] nc := by rw [hnc]; exact hJ0
      clear hJ0
      have HNC := Hid.intro hnc
      clear hnc
      obtain ⟨hcS0, hcS1, hcT0, hcT1, hcJ0, hcJ1, hfJ, hJ0a, hJ1a, hJ0d, hJ1d⟩ := hJ.facts
      have nT : wr.cell? ⟨gt, 0, none⟩ = some (.string (nameB p)) := nTo.out _ hJ.bel
      have cT : wr.cell? ⟨gs, os, none⟩ = some (.int .u64 x) := cTo.out _ hJ.bel
      go_upto_region 14 with fail
      go_cut [79] (fun v wc => v = .bool true ∧ wc = wr)
      case first =>
        by_cases hlt : 0 < n
        · have hdd : decide ((0 : Int) < (n : Int)) = true := by simp; omega
          go_wp2_with fail
          go_meet
          exact ⟨rfl, rfl⟩
        · have hdd : decide ((0 : Int) < (n : Int)) = false := by simp; omega
          go_wp2_with fail
          go_meet
          exact ⟨rfl, rfl⟩
      case rest =>
        obtain ⟨rfl, hwc⟩ := hcut
        have hwc' := hwc.symm
        clear hwc
        subst hwc'
        go_upto_block 5 with fail
        go_cut [13] (fun v wc => v = .int .i64 1 ∧ ∃ q, wc = wr.drewN q)
        case first =>
          by_cases hlt : 0 < n
          · have hdd : ((0 : Int) == (n : Int)) = false := by simp; omega
            obtain ⟨g, o, rfl, hgne, hni⟩ := HN.out (by omega)
            have nS : wr.cell? ⟨g, o, none⟩ = some (.string (nameB (F 0))) := ((below_cells hJ.bel) _ _ (hni 0 hlt))
            have hFl : p < F 0 := HHI.out 0 (Nat.le_refl _) hlt
            have hcm : cmpI (F 0) p = 1 := by simp [cmpI]; omega
            have hF3 := HSUB.out.lt 0 hlt
            go_wp2_with fail
            go_quiet (first | (go_at_call 24; exact Calls.quiet_of_same (cmpS_any (F 0) p hF3 hp _)))
            go_wp2_with fail
            go_meet
            exact ⟨by rw [hcm], nq, rfl⟩
          · have hdd : ((0 : Int) == (n : Int)) = true := by simp; omega
            go_wp2_with fail
            go_meet
            exact ⟨rfl, 0, rfl⟩
        case rest =>
          obtain ⟨rfl, q1, rfl⟩ := hcut
          have hJq := hJ.drewN q1
          obtain ⟨wq, hwq⟩ : ∃ wq, wq = wr.drewN q1 := ⟨_, rfl⟩
          rw [← hwq] at hJq ⊢
          clear hwq hcS0 hcS1 hcT0 hcT1 hcJ0 hcJ1 hfJ hJ0a hJ1a hJ0d hJ1d nT cT hJ
          obtain ⟨hcS0, hcS1, hcT0, hcT1, hcJ0, hcJ1, hfJ, hJ0a, hJ1a, hJ0d, hJ1d⟩ := hJq.facts
          have nT : wq.cell? ⟨gt, 0, none⟩ = some (.string (nameB p)) := nTo.out _ hJq.bel
          have cT : wq.cell? ⟨gs, os, none⟩ = some (.int .u64 x) := cTo.out _ hJq.bel
          go_wp2_with fail
          refine wp_then (join_reg40 _ _ _ _ _ _ _ _ _ _ _ _ _ _ _ _ _ _ _ _ _ _ _ _ _ _ _ _ _ _ _ _ _ _ _ _ _ _ _ _ _ _ _ _ _ _ _ _ _ _ _ _ _ _ _ _ _ _ _ _ _ _ _ _ _ _ _ _ _ _ _ _ _ _ _ _ _ _ _ _ _ _ _ _ _ _ _ _ _ _ _ _ _ _ _ _ _ _ _ _ _ _ _ _ _ _ _ _ _ _ _ _ _ _ _ _ _ _ _ _ _ _ _ _ _ _ _ _ _ _ _ _ _ _ _ _ _ _ _ _ _ _ _ _ _ _ _ _ _ _ _ _ _ _ _ _ _ _ _ _ _ _ _ _ _ _ _ _ _ _ _ _ _ _ _ _ _ _ _ _ _ _ _ _ _ _ _ _ _ _ _ _ _ _ _ _ _ _ _ _ _ _ _ _ _ _ _ _ _ _ _ _ _ _ _ _ _ _ _ _ _ _ _ _ _ _ _ _ _ _ _ _ _ _ _ _ _ _ _ _ _ _ _ _ _ _ _ w _ _ _ _ _ _ _ _ _ _ _ _ hJq cT (by omega)) ?_
          rintro _ w3 ⟨g', cap, u224, u225, u226, u227, u228, u229, u230, u231, u232, u233, HJ3, rfl⟩
          have HJ3 := Hid.intro HJ3
          go_wp2
          go_roundw
          case rel => exact ⟨0, 1, .slice none 0 0, .slice (some ⟨g', 0, none⟩) (0 + 1) cap, by omega, rfl, rfl, rfl, by go_num, .inr (.inl ⟨rfl, by omega, by omega, rfl, HJ3.out.cast rfl rfl (by rw [hlen]) rfl (cnt_more HNC.out (by rw [g3_at]; simp [cntV, HC.out]; omega))⟩)⟩
          case measure => simp [intOf]
    · subst hi0
      obtain ⟨nc, hnc, hlen⟩ : ∃ nc, nc = (List.range (0 + 1)).map (fun t => cntV (fun q => if q = p then max (c p) x else c q) (G3 F p 0 t)) ∧ nc.length = 0 + 1 := ⟨_, rfl, by simp⟩
      have hJ : JS w (.slice an n cn) (.slice ac n cc) (.slice (some ⟨gt, 0, none⟩) 1 ct) (.slice (some ⟨gs, os, none⟩) 1 ct2) wr (.slice none 0 0) cv [] nc := by rw [hnc]; exact hJ0
      clear hJ0
      have HNC := Hid.intro hnc
      clear hnc
      obtain ⟨hcS0, hcS1, hcT0, hcT1, hcJ0, hcJ1, hfJ, hJ0a, hJ1a, hJ0d, hJ1d⟩ := hJ.facts
      have nT : wr.cell? ⟨gt, 0, none⟩ = some (.string (nameB p)) := nTo.out _ hJ.bel
      have cT : wr.cell? ⟨gs, os, none⟩ = some (.int .u64 x) := cTo.out _ hJ.bel
      by_cases hlt : 0 < n
      · obtain ⟨g, o, rfl, hgne, hni⟩ := HN.out (by omega)
        obtain ⟨g2, o2, rfl, hci⟩ := HCC.out (by omega)
        have hni := Hid.intro hni
        have hci := Hid.intro hci
        have hFp : p < F 0 := HHI.out 0 (Nat.le_refl _) hlt
        have HFP := Hid.intro hFp
        clear hFp
        have hns : ∀ j u, [namV p][j]? = some u → wr.cell? ((⟨gt, 0, none⟩ : Addr).add j) = some u := fun j u hj => by
          match j, hj with
          | 0, hj =>
            simp at hj
            subst hj
            exact nT
        have HNS := Hid.intro hns
        have HU : Hid (∀ u ∈ [namV p], u.oneCell' = true) := by intro u hu; simp at hu; subst hu; rfl
        clear hns
        have hz : (0 : Int) < (n : Int) := by omega
        go_wp2_with fail
        refine wp_then (join_reg28 _ _ _ _ _ _ _ _ _ _ _ _ _ _ _ _ _ _ _ _ _ _ _ _ _ _ _ _ _ _ _ _ _ _ _ _ _ _ _ _ _ _ _ _ _ _ _ _ _ _ _ _ _ _ _ _ _ _ _ _ _ _ _ _ _ _ _ _ _ _ _ _ _ _ _ _ _ _ _ _ _ _ _ _ _ _ _ _ _ _ _ _ _ _ _ _ _ _ _ _ _ _ _ _ _ _ _ _ _ _ _ _ _ _ _ _ _ _ _ _ _ _ _ _ _ _ _ _ _ _ _ _ _ _ _ _ _ _ _ _ _ _ _ _ _ _ _ _ _ _ _ _ _ _ _ _ _ _ _ _ _ _ _ _ _ _ _ _ _ _ _ _ _ _ _ _ _ _ _ _ _ _ _ _ _ _ _ _ _ _ _ _ _ _ _ _ _ _ _ _ _ _ _ _ _ _ _ _ _ _ _ _ _ _ _ _ _ _ _ _ _ _ _ _ _ _ _ _ _ _ _ _ _ _ _ _ _ _ _ _ _ _ _ _ _ w _ _ _ _ _ _ _ _ _ _ _ _ hJ h3 hct (by simp) HNS.out HU.out) ?_
        rintro _ wa ⟨g1, k1, u145, u146, u147, u148, u149, u150, u151, u152, u153, u154, u155, u156, u157, u158, u159, u160, hJA, rfl⟩
        clear hcS0 hcS1 hcT0 hcT1 hcJ0 hcJ1 hfJ hJ0a hJ1a hJ0d hJ1d nT cT hJ HNS HU
        obtain ⟨hcS0, hcS1, hcT0, hcT1, hcJ0, hcJ1, hfJ, hJ0a, hJ1a, hJ0d, hJ1d⟩ := hJA.facts
        have nT : wa.cell? ⟨gt, 0, none⟩ = some (.string (nameB p)) := nTo.out _ hJA.bel
        have cT : wa.cell? ⟨gs, os, none⟩ = some (.int .u64 x) := cTo.out _ hJA.bel
        have nS : wa.cell? ⟨g, o + 0, none⟩ = some (.string (nameB (F 0))) := ((below_cells hJA.bel) _ _ (hni.out 0 hlt))
        go_wp2_with fail
        refine wp_then (join_reg31 _ _ _ _ _ _ _ _ _ _ _ _ _ _ _ _ _ _ _ _ _ _ _ _ _ _ _ _ _ _ _ _ _ _ _ _ _ _ _ _ _ _ _ _ _ _ _ _ _ _ _ _ _ _ _ _ _ _ _ _ _ _ _ _ _ _ _ _ _ _ _ _ _ _ _ _ _ _ _ _ _ _ _ _ _ _ _ _ _ _ _ _ _ _ _ _ _ _ _ _ _ _ _ _ _ _ _ _ _ _ _ _ _ _ _ _ _ _ _ _ _ _ _ _ _ _ _ _ _ _ _ _ _ _ _ _ _ _ _ _ _ _ _ _ _ _ _ _ _ _ _ _ _ _ _ _ _ _ _ _ _ _ _ _ _ _ _ _ _ _ _ _ _ _ _ _ _ _ _ _ _ _ _ _ _ _ _ _ _ _ _ _ _ _ _ _ _ _ _ _ _ _ _ _ _ _ _ _ _ _ _ _ _ _ _ _ _ _ _ _ _ _ _ _ _ _ _ _ _ _ _ _ _ _ _ _ _ _ _ _ _ _ _ _ _ _ _ w _ _ _ _ _ _ _ _ _ _ _ _ _ _ hJA hlt nS (by simp)) ?_
        rintro _ wb ⟨g3, k3, u164, u165, u166, u167, u168, u169, u170, u171, u172, u173, hJB, rfl⟩
        clear hcS0 hcS1 hcT0 hcT1 hcJ0 hcJ1 hfJ hJ0a hJ1a hJ0d hJ1d nT cT hJA nS
        have hJB := hJB.cast rfl (by simp) rfl rfl rfl (nv' := .slice (some ⟨g3, 0, none⟩) (1 + 1) k3)
        obtain ⟨hcS0, hcS1, hcT0, hcT1, hcJ0, hcJ1, hfJ, hJ0a, hJ1a, hJ0d, hJ1d⟩ := hJB.facts
        have nT : wb.cell? ⟨gt, 0, none⟩ = some (.string (nameB p)) := nTo.out _ hJB.bel
        have cT : wb.cell? ⟨gs, os, none⟩ = some (.int .u64 x) := cTo.out _ hJB.bel
        have cS : wb.cell? ⟨g2, o2 + 0, none⟩ = some (.int .u64 (c (F 0))) := ((below_cells hJB.bel) _ _ (hci.out 0 hlt))
        go_wp2_with fail
        refine wp_then (join_reg32 _ _ _ _ _ _ _ _ _ _ _ _ _ _ _ _ _ _ _ _ _ _ _ _ _ _ _ _ _ _ _ _ _ _ _ _ _ _ _ _ _ _ _ _ _ _ _ _ _ _ _ _ _ _ _ _ _ _ _ _ _ _ _ _ _ _ _ _ _ _ _ _ _ _ _ _ _ _ _ _ _ _ _ _ _ _ _ _ _ _ _ _ _ _ _ _ _ _ _ _ _ _ _ _ _ _ _ _ _ _ _ _ _ _ _ _ _ _ _ _ _ _ _ _ _ _ _ _ _ _ _ _ _ _ _ _ _ _ _ _ _ _ _ _ _ _ _ _ _ _ _ _ _ _ _ _ _ _ _ _ _ _ _ _ _ _ _ _ _ _ _ _ _ _ _ _ _ _ _ _ _ _ _ _ _ _ _ _ _ _ _ _ _ _ _ _ _ _ _ _ _ _ _ _ _ _ _ _ _ _ _ _ _ _ _ _ _ _ _ _ _ _ _ _ _ _ _ _ _ _ _ _ _ _ _ _ _ _ _ _ _ _ _ _ _ _ _ w _ _ _ _ _ _ _ _ _ _ _ _ _ _ hJB hlt cS (by omega)) ?_
        rintro _ w3 ⟨g', cap, u174, u175, u176, u177, u178, u179, u180, u181, u182, u183, HJ3, rfl⟩
        have HJ3 := Hid.intro HJ3
        go_wp2
        go_roundw
        case rel => exact ⟨1, 1, .slice (some ⟨g3, 0, none⟩) (1 + 1) k3, .slice (some ⟨g', 0, none⟩) (1 + 1) cap, by omega, rfl, rfl, by go_num, by go_num, .inr (.inr ⟨rfl, by omega, by omega, ⟨_, _, rfl⟩, HJ3.out.cast rfl rfl (by rw [hlen]) rfl (cnt_more (k := 1) HNC.out (by have := HFP.out; rw [g3_hi (Nat.le_refl 0)]; simp [cntV]; omega))⟩)⟩
        case measure => simp [intOf]; omega
      · obtain rfl : n = 0 := by omega
        obtain ⟨gc, capc, rfl⟩ := hJ.form (by omega)
        rw [hlen] at hJ hcJ1 hJ1a hJ1d
        have hcR0 := two_cell0 hJ.hr
        have hcR1 := two_cell1 hJ.hr
        have hfR := two_free hJ.hr
        have HJ := Hid.intro hJ
        have hFin := HJ.out.finish (W := _) (nvF := .slice (some ⟨gt, 0, none⟩) 1 ct) (G := G3 F p 0) hlen (HSUB.out.new hp (Nat.le_refl 0) HLO.out HHI.out hx) HNC.out ⟨_, _, rfl, fun _ => ⟨gt, 0, rfl, fun t ht => (by
          obtain rfl : t = 0 := by omega
          show wr.cell? ⟨gt, 0, none⟩ = some (Value.string (nameB (G3 F p 0 0)))
          rw [g3_at]
          exact nT)⟩⟩ (HJ.out.ends (.slice (some ⟨gt, 0, none⟩) 1 ct) (.slice (some ⟨gt, 0, none⟩) 1 ct) (.slice (some ⟨gc, 0, none⟩) (0 + 1) capc)).1
        have HF := Hid.intro hFin
        clear hFin hJ
        go_wp2
        exact bodyPost_ret (v := .agg #[.slice (some ⟨gt, 0, none⟩) 1 ct, .slice (some ⟨gc, 0, none⟩) 1 capc]) (by simp [results, Ybaf.results13, go_sem, hcR0, hcR1]) rfl ⟨_, rfl, HF.out, (HJ.out.ends _ _ _).2⟩
    · obtain ⟨nc, hnc, hlen⟩ : ∃ nc, nc = (List.range (i + 1)).map (fun t => cntV (fun q => if q = p then max (c p) x else c q) (G3 F p 0 t)) ∧ nc.length = i + 1 := ⟨_, rfl, by simp⟩
      obtain ⟨nn, hnn, hlnn⟩ : ∃ nn, nn = ((List.range (i + 1)).map (fun t => namV (G3 F p 0 t))) ∧ nn.length = i + 1 := ⟨_, rfl, by simp⟩
      have hJ : JS w (.slice an n cn) (.slice ac n cc) (.slice (some ⟨gt, 0, none⟩) 1 ct) (.slice (some ⟨gs, os, none⟩) 1 ct2) wr (.slice (some ⟨gn, 0, none⟩) (i + 1) capn) cv nn nc := by rw [hnc, hnn]; exact hJ0
      clear hJ0
      have HNC := Hid.intro hnc
      have HNN := Hid.intro hnn
      clear hnc hnn
      have hd : decide (0 < i) = true := by simp; omega
      obtain ⟨hcS0, hcS1, hcT0, hcT1, hcJ0, hcJ1, hfJ, hJ0a, hJ1a, hJ0d, hJ1d⟩ := hJ.facts
      have nT : wr.cell? ⟨gt, 0, none⟩ = some (.string (nameB p)) := nTo.out _ hJ.bel
      have cT : wr.cell? ⟨gs, os, none⟩ = some (.int .u64 x) := cTo.out _ hJ.bel
      by_cases hlt : i < n
      · obtain ⟨g, o, rfl, hgne, hni⟩ := HN.out (by omega)
        obtain ⟨g2, o2, rfl, hci⟩ := HCC.out (by omega)
        have hni := Hid.intro hni
        have hci := Hid.intro hci
        have hFp : p < F i := HHI.out i hia hlt
        have HFP := Hid.intro hFp
        clear hFp
        have nS : wr.cell? ⟨g, o + i, none⟩ = some (.string (nameB (F i))) := ((below_cells hJ.bel) _ _ (hni.out i hlt))
        have cS : wr.cell? ⟨g2, o2 + i, none⟩ = some (.int .u64 (c (F i))) := ((below_cells hJ.bel) _ _ (hci.out i hlt))
        go_wp2_with fail
        refine wp_then (join_reg31 _ _ _ _ _ _ _ _ _ _ _ _ _ _ _ _ _ _ _ _ _ _ _ _ _ _ _ _ _ _ _ _ _ _ _ _ _ _ _ _ _ _ _ _ _ _ _ _ _ _ _ _ _ _ _ _ _ _ _ _ _ _ _ _ _ _ _ _ _ _ _ _ _ _ _ _ _ _ _ _ _ _ _ _ _ _ _ _ _ _ _ _ _ _ _ _ _ _ _ _ _ _ _ _ _ _ _ _ _ _ _ _ _ _ _ _ _ _ _ _ _ _ _ _ _ _ _ _ _ _ _ _ _ _ _ _ _ _ _ _ _ _ _ _ _ _ _ _ _ _ _ _ _ _ _ _ _ _ _ _ _ _ _ _ _ _ _ _ _ _ _ _ _ _ _ _ _ _ _ _ _ _ _ _ _ _ _ _ _ _ _ _ _ _ _ _ _ _ _ _ _ _ _ _ _ _ _ _ _ _ _ _ _ _ _ _ _ _ _ _ _ _ _ _ _ _ _ _ _ _ _ _ _ _ _ _ _ _ _ _ _ _ _ _ _ _ _ w _ _ _ _ _ _ _ _ _ _ _ _ _ _ hJ hlt nS (by omega)) ?_
        rintro _ wb ⟨g3, k3, u164, u165, u166, u167, u168, u169, u170, u171, u172, u173, hJB, rfl⟩
        clear hcS0 hcS1 hcT0 hcT1 hcJ0 hcJ1 hfJ hJ0a hJ1a hJ0d hJ1d nT cT hJ nS cS
        have hJB := hJB.cast rfl (by rw [hlnn]) rfl rfl rfl (nv' := .slice (some ⟨g3, 0, none⟩) (i + 1 + 1) k3)
        obtain ⟨hcS0, hcS1, hcT0, hcT1, hcJ0, hcJ1, hfJ, hJ0a, hJ1a, hJ0d, hJ1d⟩ := hJB.facts
        have nT : wb.cell? ⟨gt, 0, none⟩ = some (.string (nameB p)) := nTo.out _ hJB.bel
        have cT : wb.cell? ⟨gs, os, none⟩ = some (.int .u64 x) := cTo.out _ hJB.bel
        have cS : wb.cell? ⟨g2, o2 + i, none⟩ = some (.int .u64 (c (F i))) := ((below_cells hJB.bel) _ _ (hci.out i hlt))
        go_wp2_with fail
        refine wp_then (join_reg32 _ _ _ _ _ _ _ _ _ _ _ _ _ _ _ _ _ _ _ _ _ _ _ _ _ _ _ _ _ _ _ _ _ _ _ _ _ _ _ _ _ _ _ _ _ _ _ _ _ _ _ _ _ _ _ _ _ _ _ _ _ _ _ _ _ _ _ _ _ _ _ _ _ _ _ _ _ _ _ _ _ _ _ _ _ _ _ _ _ _ _ _ _ _ _ _ _ _ _ _ _ _ _ _ _ _ _ _ _ _ _ _ _ _ _ _ _ _ _ _ _ _ _ _ _ _ _ _ _ _ _ _ _ _ _ _ _ _ _ _ _ _ _ _ _ _ _ _ _ _ _ _ _ _ _ _ _ _ _ _ _ _ _ _ _ _ _ _ _ _ _ _ _ _ _ _ _ _ _ _ _ _ _ _ _ _ _ _ _ _ _ _ _ _ _ _ _ _ _ _ _ _ _ _ _ _ _ _ _ _ _ _ _ _ _ _ _ _ _ _ _ _ _ _ _ _ _ _ _ _ _ _ _ _ _ _ _ _ _ _ _ _ _ _ _ _ _ w _ _ _ _ _ _ _ _ _ _ _ _ _ _ hJB hlt cS (by omega)) ?_
        rintro _ w3 ⟨g', cap, u174, u175, u176, u177, u178, u179, u180, u181, u182, u183, HJ3, rfl⟩
        have HJ3 := Hid.intro HJ3
        go_wp2
        go_roundw
        case rel => exact ⟨i + 1, 1, .slice (some ⟨g3, 0, none⟩) (i + 1 + 1) k3, .slice (some ⟨g', 0, none⟩) (i + 1 + 1) cap, by omega, by simp, rfl, by go_num, by go_num, .inr (.inr ⟨rfl, by omega, by omega, ⟨_, _, rfl⟩, HJ3.out.cast rfl rfl (by rw [hlen]) (nam_more HNN.out (by rw [g3_hi hia]; rfl)) (cnt_more HNC.out (by have := HFP.out; rw [g3_hi hia]; simp [cntV]; omega))⟩)⟩
        case measure => simp [intOf]; omega
      · obtain rfl : i = n := by omega
        obtain ⟨gc, capc, rfl⟩ := hJ.form (by omega)
        rw [hlen] at hJ hcJ1 hJ1a hJ1d
        have hcR0 := two_cell0 hJ.hr
        have hcR1 := two_cell1 hJ.hr
        have hfR := two_free hJ.hr
        have HJ := Hid.intro hJ
        have hFin := HJ.out.finish (W := _) (nvF := .slice (some ⟨gn, 0, none⟩) (i + 1) capn) (G := G3 F p 0) hlen (HSUB.out.new hp hia HLO.out HHI.out hx) HNC.out ⟨_, _, rfl, fun _ => ⟨gn, 0, rfl, fun t ht => (by
          have hon := HJ.out.on
          rw [hlnn] at hon
          rw [Nat.zero_add, hon.cellAt t (by omega), HNN.out]
          simp [ht, namV])⟩⟩ (HJ.out.ends2 (.slice (some ⟨gn, 0, none⟩) (i + 1) capn) (.slice (some ⟨gc, 0, none⟩) (i + 1) capc)).1
        have HF := Hid.intro hFin
        clear hFin hJ
        go_wp2
        exact bodyPost_ret (v := .agg #[.slice (some ⟨gn, 0, none⟩) (i + 1) capn, .slice (some ⟨gc, 0, none⟩) (i + 1) capc]) (by simp [results, Ybaf.results13, go_sem, hcR0, hcR1]) rfl ⟨_, rfl, HF.out, (HJ.out.ends2 _ _).2⟩
end Go.Proofs.YbulkcjpqFmt
