import Derived.Test.YbulkcjpqFmtLawF
import Derived.Test.YbulkcjpqFmtLawG
import Derived.Test.YbulkcjpqFmtLawI
import Derived.Test.YbulkcjpqFmtLawP
import Derived.Test.YbulkcjpqFmtLawQ
import Derived.Test.YbulkcjpqFmtLawS
namespace Go.Proofs.YbulkcjpqFmt
open Go.ChangeShapes Go.WideShapes Go.ChangeAt Go.RowKit Go.Deep
set_option linter.unusedVariables false
set_option linter.unusedSimpArgs false

theorem info21 : (Ybaf.prog.info? 21).map (fun i => (i.zero, i.size, i.bytes)) = some (some (.int .i32 0), 1, 4) := by kernel_rfl

theorem info27 : (Ybaf.prog.info? 27).map (fun i => (i.zero, i.size, i.bytes)) = some (some (.agg (Array.replicate 72 (.int .u64 0))), 72, 576) := by kernel_rfl
theorem zero_of {P : Program} {t : TypeId} {z : Value} {s b : Nat} (h : (P.info? t).map (fun i => (i.zero, i.size, i.bytes)) = some (some z, s, b)) (W : World) : Sem.run P (zeroValue t) W = .ok z W := by
  obtain ⟨i, hi, hz, _, _⟩ := info_parts h
  simp [zeroValue, typeInfo, hi, hz]
theorem zeros27 : ∃ zs : Array Value, (∀ W, Sem.run Ybaf.prog (zeroValue 27) W = .ok (.agg zs) W) ∧ ¬ zs = #[] ∧ ∀ i, i < 72 → zs[i]? = some (.int .u64 0) :=
  ⟨Array.replicate 72 (.int .u64 0), fun W => zero_of info27 W, fun h => by have := congrArg Array.size h; simp at this, fun i hi => by simp [hi]⟩

set_option maxHeartbeats 4000000 in
set_option maxRecDepth 20000 in
theorem law_main (np m0 m1 m2 p0 p1 p2 : Int) (ae ak ac : Option Addr) (m ce l2 ck lc cc n : Nat) (ep ek : Nat → Nat) (E : Nat → Int) (w : World) (hnp : 0 ≤ np ∧ np ≤ 255) (hn : (n : Int) = 1 + np % 3)
    (hM : ∀ i, 0 ≤ tri m0 m1 m2 i ∧ tri m0 m1 m2 i ≤ 255) (hPF : ∀ i, 0 ≤ tri p0 p1 p2 i ∧ tri p0 p1 p2 i ≤ 255) (hE : ∀ i, 0 ≤ E i ∧ E i ≤ 255) (hep : ∀ i, ep i ≤ 255) (hek : ∀ i, ek i ≤ 255) (hm : m ≤ 1024) (hl2 : l2 ≤ 9223372036854775807) (hlc : lc ≤ 9223372036854775807)
    (he : 0 < m → ∃ g o, ae = some ⟨g, o, none⟩ ∧ ∀ i, i < m → w.cell? ⟨g, o + i, none⟩ = some (.int .u8 (ep i)))
    (hk : 0 < l2 → ∃ g o, ak = some ⟨g, o, none⟩ ∧ ∀ i, i < l2 → w.cell? ⟨g, o + i, none⟩ = some (.int .u8 (ek i)))
    (hc : 0 < lc → ∃ g o, ac = some ⟨g, o, none⟩ ∧ ∀ i, i < lc → w.cell? ⟨g, o + i, none⟩ = some (.int .u8 (E i))) :
    Calls Ybaf.prog 3 #[.int .u8 np, .slice ae m ce, .slice ak l2 ck, .agg #[.int .u8 m0, .int .u8 m1, .int .u8 m2], .agg #[.int .u8 p0, .int .u8 p1, .int .u8 p2], .slice ac lc cc] w fun e w' => e = .returned (.bool true) ∧ Below w.heap.size w w' := by
  have hn3 : n ≤ 3 := by omega
  have hn1 : 1 ≤ n := by omega
  have hmk1 : ∀ W : World, (Instr.makeSlice 30 (.int .i64 ((n : Int) + 1)) (.int .i64 ((n : Int) + 1))).run Ybaf.prog W = .ok (.slice (some ⟨W.heap.size, 0, none⟩) (n + 1) (n + 1)) (W.alloc (.cells (madeCells #[.int .i32 0] (n + 1)) 21)) := fun W => by
    have := run_make_row' (P := Ybaf.prog) 30 21 (.int .i32 0) 4 Ybaf.underlying30 info21 rfl .i64 .i64 (n + 1) (by omega) (by omega) W
    simpa using this
  have hmk2 := run_make_row' (P := Ybaf.prog) 30 21 (.int .i32 0) 4 Ybaf.underlying30 info21 rfl .i64 .i64 n (by omega) (by omega)
  have hmk3 := run_make_row' (P := Ybaf.prog) 30 21 (.int .i32 0) 4 Ybaf.underlying30 info21 rfl .i64 .i64 m (by omega) (by omega)
  have hmk4 := run_make_row' (P := Ybaf.prog) 34 24 (.int .u64 0) 8 Ybaf.underlying34 info24 rfl .i64 .i64 m (by omega) (by omega)
  have hnn : 1 + np % 3 = (n : Int) := hn.symm
  have hwr : IntKind.i64.wrap ((n : Int) + 1) = (n : Int) + 1 := by rcases (by omega : n = 1 ∨ n = 2 ∨ n = 3) with rfl | rfl | rfl <;> rfl
  have HM := Hid.intro hM
  have HPF := Hid.intro hPF
  have HE := Hid.intro hE
  have HEP := Hid.intro hep
  have HEK := Hid.intro hek
  have HEV := Hid.intro he
  have HKV := Hid.intro hk
  have HC := Hid.intro hc
  clear hn hM hPF hE hep hek he hk hc
  obtain ⟨zs, hz27, hzne, hzi⟩ := zeros27
  have HZI := Hid.intro hzi
  clear hzi
  go_enter Ybaf.func3, Ybaf.ntmps3
  go_upto_block 0 with fail
  refine wp_then (law_blk0 _ _ _ _ _ _ _ _ _ _ _ _ _ _ _ _ _ _ _ _ _ _ _ _ _ _ _ _ _ _ _ _ _ _ _ _ _ _ _ _ _ _ _ _ _ _ _ _ _ _ _ _ _ _ _ _ _ _ _ _ _ _ _ _ _ _ _ _ _ _ _ _ _ _ _ _ _ _ _ _ _ _ _ _ _ _ _ _ _ _ _ _ _ _ _ _ _ _ _ _ _ _ _ _ _ _ _ _ _ _ _ _ _ _ _ _ _ _ _ _ _ _ _ _ _ _ _ _ _ _ _ _ _ _ _ _ _ _ _ _ _ _ _ _ _ _ _ _ _ _ _ _ _ _ _ _ _ _ _ _ _ _ _ _ _ _ _ _ _ _ _ _ _ _ _ _ _ _ _ _ _ _ _ _ _ _ _ _ _ _ _ _ _ _ _ _ _ _ _ _ _ _ _ _ _ _ _ _ _ _ _ _ _ _ _ _ _ _ _ _ _ _ _ _ _ _ _ _ _ _ _ _ _ _ _ _ _ _ _ _ _ _ _ _ _ _ _ _ _ _ _ _ _ _ _ _ _ _ _ _ _ _ _ _ _ _ _ _ _ _ _ _ _ _ _ _ _ _ _ _ _ _ _ _ _ _ _ _ _ _ _ _ _ _ _ _ _ _ _ _ _ _ _ _ _ _ _ _ _ _ _ _ _ _ _ _ _ _ _ _ _ _ _ _ _ _ w _ _ w.heap.size (w.heap.size + 1) (w.heap.size + 1 + 1) (w.heap.size + 1 + 1 + 1) (w.heap.size + 1 + 1 + 1 + 1) n lc cc ac E (tri m0 m1 m2) (tri p0 p1 p2) hn3 HM.out hlc HE.out HC.out (LA_begin w m0 m1 m2 p0 p1 p2 zs _ n lc E HZI.out (fun i hi => ?_))) ?_
  · show (Array.replicate 24 (Value.bool false))[i]? = some (.bool false)
    simp [hi]
  intro a' W1 hq
  obtain ⟨v', hq⟩ := hq
  obtain ⟨u12, hq⟩ := hq
  obtain ⟨u18, hq⟩ := hq
  obtain ⟨u19, hq⟩ := hq
  obtain ⟨u20, hq⟩ := hq
  obtain ⟨u21, hq⟩ := hq
  obtain ⟨u22, hq⟩ := hq
  obtain ⟨u23, hq⟩ := hq
  obtain ⟨u24, hq⟩ := hq
  obtain ⟨u25, hq⟩ := hq
  obtain ⟨u57, hq⟩ := hq
  obtain ⟨u58, hq⟩ := hq
  obtain ⟨u59, hq⟩ := hq
  obtain ⟨u60, hq⟩ := hq
  obtain ⟨u61, hq⟩ := hq
  obtain ⟨u62, hq⟩ := hq
  obtain ⟨u63, hq⟩ := hq
  obtain ⟨u64, hq⟩ := hq
  obtain ⟨u65, hq⟩ := hq
  obtain ⟨u66, hq⟩ := hq
  obtain ⟨u67, hq⟩ := hq
  obtain ⟨u68, hq⟩ := hq
  obtain ⟨u69, hq⟩ := hq
  obtain ⟨u70, hq⟩ := hq
  obtain ⟨u71, hq⟩ := hq
  obtain ⟨u72, hq⟩ := hq
  obtain ⟨u73, hq⟩ := hq
  obtain ⟨u74, hq⟩ := hq
  obtain ⟨u75, hq⟩ := hq
  obtain ⟨u76, hq⟩ := hq
  obtain ⟨u77, hq⟩ := hq
  obtain ⟨u78, hq⟩ := hq
  obtain ⟨u79, hq⟩ := hq
  obtain ⟨u80, hq⟩ := hq
  obtain ⟨u81, hq⟩ := hq
  obtain ⟨u82, hq⟩ := hq
  obtain ⟨u83, hq⟩ := hq
  obtain ⟨u84, hq⟩ := hq
  obtain ⟨u85, hq⟩ := hq
  obtain ⟨u86, hq⟩ := hq
  obtain ⟨u87, hq⟩ := hq
  obtain ⟨u88, hq⟩ := hq
  obtain ⟨u89, hq⟩ := hq
  obtain ⟨u90, hq⟩ := hq
  obtain ⟨u91, hq⟩ := hq
  obtain ⟨u92, hq⟩ := hq
  obtain ⟨u93, hq⟩ := hq
  obtain ⟨u94, hq⟩ := hq
  obtain ⟨u95, hq⟩ := hq
  obtain ⟨u96, hq⟩ := hq
  obtain ⟨u97, hq⟩ := hq
  obtain ⟨u98, hq⟩ := hq
  obtain ⟨u99, hq⟩ := hq
  obtain ⟨u100, hq⟩ := hq
  obtain ⟨u101, hq⟩ := hq
  obtain ⟨u102, hq⟩ := hq
  obtain ⟨u103, hq⟩ := hq
  obtain ⟨u104, hq⟩ := hq
  obtain ⟨u105, hq⟩ := hq
  obtain ⟨u106, hq⟩ := hq
  obtain ⟨u107, hq⟩ := hq
  obtain ⟨u108, hq⟩ := hq
  obtain ⟨u109, hq⟩ := hq
  obtain ⟨u110, hq⟩ := hq
  obtain ⟨u111, hq⟩ := hq
  obtain ⟨u112, hq⟩ := hq
  obtain ⟨u113, hq⟩ := hq
  obtain ⟨u114, hq⟩ := hq
  obtain ⟨u115, hq⟩ := hq
  obtain ⟨u116, hq⟩ := hq
  obtain ⟨u117, hq⟩ := hq
  obtain ⟨u118, hq⟩ := hq
  obtain ⟨u119, hq⟩ := hq
  obtain ⟨u120, hq⟩ := hq
  obtain ⟨u121, hq⟩ := hq
  obtain ⟨u122, hq⟩ := hq
  obtain ⟨u123, hq⟩ := hq
  obtain ⟨u124, hq⟩ := hq
  obtain ⟨u125, hq⟩ := hq
  obtain ⟨u126, hq⟩ := hq
  obtain ⟨u127, hq⟩ := hq
  obtain ⟨u128, hq⟩ := hq
  obtain ⟨u129, hq⟩ := hq
  obtain ⟨u130, hq⟩ := hq
  obtain ⟨u131, hq⟩ := hq
  obtain ⟨u132, hq⟩ := hq
  obtain ⟨u133, hq⟩ := hq
  obtain ⟨u134, hq⟩ := hq
  obtain ⟨u135, hq⟩ := hq
  obtain ⟨u136, hq⟩ := hq
  obtain ⟨u137, hq⟩ := hq
  obtain ⟨u138, hq⟩ := hq
  obtain ⟨u139, hq⟩ := hq
  obtain ⟨u140, hq⟩ := hq
  obtain ⟨u141, hq⟩ := hq
  obtain ⟨u142, hq⟩ := hq
  obtain ⟨u143, hq⟩ := hq
  obtain ⟨hLA, rfl⟩ := hq
  obtain ⟨NV, CV, kcf, h1, h2, h3, h4⟩ := hLA.rest
  obtain ⟨gv, cap, hv, hcap1, hcap2⟩ : ∃ gv cap, v' = .slice (some ⟨gv, 0, none⟩) (kl (tri m0 m1 m2) (n * 8)).length cap ∧ (kl (tri m0 m1 m2) (n * 8)).length ≤ cap ∧ cap ≤ 9223372036854775807 := by
    have hpos := kl_lt (tri m0 m1 m2) (show 8 * 0 < n * 8 by omega) (HH_first _ 0)
    rcases h3.2 with ⟨_, h0⟩ | ⟨g, cap, cur, e, _, _, e2, e3, _⟩
    · omega
    · exact ⟨g, cap, e, e2, by unfold maxLen at e3; omega⟩
  have HLA := Hid.intro hLA
  have H1 := Hid.intro h1
  have H2 := Hid.intro h2
  have H3 := Hid.intro h3
  have H4 := Hid.intro h4
  have HV := Hid.intro hv
  clear hLA h1 h2 h3 h4 hmk1 hz27
  rw [HV.out]
  go_upto_block 6 with fail
  have hF1 := blk_made W1 (.int .i32 0) n 21
  have hP1 := HLA.out.hP.alloc (.cells (madeCells #[.int .i32 0] n) 21)
  refine wp_then (law_blk6 _ _ _ _ _ _ _ _ _ _ _ _ _ _ _ _ _ _ _ _ _ _ _ _ _ _ _ _ _ _ _ _ _ _ _ _ _ _ _ _ _ _ _ _ _ _ _ _ _ _ _ _ _ _ _ _ _ _ _ _ _ _ _ _ _ _ _ _ _ _ _ _ _ _ _ _ _ _ _ _ _ _ _ _ _ _ _ _ _ _ _ _ _ _ _ _ _ _ _ _ _ _ _ _ _ _ _ _ _ _ _ _ _ _ _ _ _ _ _ _ _ _ _ _ _ _ _ _ _ _ _ _ _ _ _ _ _ _ _ _ _ _ _ _ _ _ _ _ _ _ _ _ _ _ _ _ _ _ _ _ _ _ _ _ _ _ _ _ _ _ _ _ _ _ _ _ _ _ _ _ _ _ _ _ _ _ _ _ _ _ _ _ _ _ _ _ _ _ _ _ _ _ _ _ _ _ _ _ _ _ _ _ _ _ _ _ _ _ _ _ _ _ _ _ _ _ _ _ _ _ _ _ _ _ _ _ _ _ _ _ _ _ _ _ _ _ _ _ _ _ _ _ _ _ _ _ _ _ _ _ _ _ _ _ _ _ _ _ _ _ _ _ _ _ _ _ _ _ _ _ _ _ _ _ _ _ _ _ _ _ _ _ _ _ _ _ _ _ _ _ _ _ _ _ _ _ _ _ _ _ _ _ _ _ _ _ _ _ _ _ _ _ _ _ _ _ _ _ _ _ (W1.alloc (.cells (madeCells #[.int .i32 0] n) 21)) (w.heap.size + 1) W1.heap.size n (tri p0 p1 p2) hn3 HPF.out hP1 hF1) ?_
  intro a' W3 hq
  obtain ⟨u27, hq⟩ := hq
  obtain ⟨u146, hq⟩ := hq
  obtain ⟨u147, hq⟩ := hq
  obtain ⟨u148, hq⟩ := hq
  obtain ⟨u149, hq⟩ := hq
  obtain ⟨u150, hq⟩ := hq
  obtain ⟨u151, hq⟩ := hq
  obtain ⟨u152, hq⟩ := hq
  obtain ⟨u153, hq⟩ := hq
  obtain ⟨u154, hq⟩ := hq
  obtain ⟨u155, hq⟩ := hq
  obtain ⟨u156, hq⟩ := hq
  obtain ⟨u157, hq⟩ := hq
  obtain ⟨u158, hq⟩ := hq
  obtain ⟨⟨hF3, hW3⟩, rfl⟩ := hq
  have hB3 : Below W1.heap.size W1 W3 := Below.of_wid (((Below.refl _ W1).alloc (Nat.le_refl _) _)) (by simp) hW3 (fun k hk => by omega)
  have hz3 := hB3.size
  have hzw := HLA.out.bel.size
  have hlt3 := hF3.lt
  have HF3 := Hid.intro hF3
  have HB3 := Hid.intro hB3
  clear hF1 hP1 hW3 hF3 hB3 hmk2
  go_upto_block 8 with fail
  have hP5 := (blk_made W3 (.int .i32 0) m 21).alloc (.cells (madeCells #[.int .u64 0] m) 24)
  have hS5 := blk_made (W3.alloc (.cells (madeCells #[.int .i32 0] m) 21)) (.int .u64 0) m 24
  simp only [World.size_alloc] at hS5
  have hB5 : Below W1.heap.size W1 ((W3.alloc (.cells (madeCells #[.int .i32 0] m) 21)).alloc (.cells (madeCells #[.int .u64 0] m) 24)) := (HB3.out.alloc hz3 _).alloc (by simp only [World.size_alloc]; omega) _
  have hBw5 := HLA.out.bel.trans (hB5.mono hzw)
  refine wp_then (law_blk8 _ _ _ _ _ _ _ _ _ _ _ _ _ _ _ _ _ _ _ _ _ _ _ _ _ _ _ _ _ _ _ _ _ _ _ _ _ _ _ _ _ _ _ _ _ _ _ _ _ _ _ _ _ _ _ _ _ _ _ _ _ _ _ _ _ _ _ _ _ _ _ _ _ _ _ _ _ _ _ _ _ _ _ _ _ _ _ _ _ _ _ _ _ _ _ _ _ _ _ _ _ _ _ _ _ _ _ _ _ _ _ _ _ _ _ _ _ _ _ _ _ _ _ _ _ _ _ _ _ _ _ _ _ _ _ _ _ _ _ _ _ _ _ _ _ _ _ _ _ _ _ _ _ _ _ _ _ _ _ _ _ _ _ _ _ _ _ _ _ _ _ _ _ _ _ _ _ _ _ _ _ _ _ _ _ _ _ _ _ _ _ _ _ _ _ _ _ _ _ _ _ _ _ _ _ _ _ _ _ _ _ _ _ _ _ _ _ _ _ _ _ _ _ _ _ _ _ _ _ _ _ _ _ _ _ _ _ _ _ _ _ _ _ _ _ _ _ _ _ _ _ _ _ _ _ _ _ _ _ _ _ _ _ _ _ _ _ _ _ _ _ _ _ _ _ _ _ _ _ _ _ _ _ _ _ _ _ _ _ _ _ _ _ _ _ _ _ _ _ _ _ _ _ _ _ _ _ _ _ _ _ _ _ _ _ _ _ _ _ _ _ _ _ _ _ _ _ ((W3.alloc (.cells (madeCells #[.int .i32 0] m) 21)).alloc (.cells (madeCells #[.int .u64 0] m) 24)) W3.heap.size (W3.heap.size + 1) n m l2 ce ck ae ak ep ek hn3 hn1 hm hl2 HEP.out HEK.out (fun h0 => ?_) (fun h0 => ?_) hP5 hS5) ?_
  · obtain ⟨g, o, e, hci⟩ := HEV.out h0
    have hg := block_lt_of_cell (hci 0 h0)
    simp at hg
    exact ⟨g, o, e, by omega, by omega, fun i hi => below_cells hBw5 _ _ (hci i hi)⟩
  · obtain ⟨g, o, e, hci⟩ := HKV.out h0
    have hg := block_lt_of_cell (hci 0 h0)
    simp at hg
    exact ⟨g, o, e, by omega, by omega, fun i hi => below_cells hBw5 _ _ (hci i hi)⟩
  intro a' W6 hq
  obtain ⟨u31, hq⟩ := hq
  obtain ⟨u32, hq⟩ := hq
  obtain ⟨u33, hq⟩ := hq
  obtain ⟨u165, hq⟩ := hq
  obtain ⟨u166, hq⟩ := hq
  obtain ⟨u167, hq⟩ := hq
  obtain ⟨u168, hq⟩ := hq
  obtain ⟨u169, hq⟩ := hq
  obtain ⟨u170, hq⟩ := hq
  obtain ⟨u171, hq⟩ := hq
  obtain ⟨u172, hq⟩ := hq
  obtain ⟨u173, hq⟩ := hq
  obtain ⟨u174, hq⟩ := hq
  obtain ⟨u175, hq⟩ := hq
  obtain ⟨u176, hq⟩ := hq
  obtain ⟨u177, hq⟩ := hq
  obtain ⟨u178, hq⟩ := hq
  obtain ⟨u179, hq⟩ := hq
  obtain ⟨u180, hq⟩ := hq
  obtain ⟨u181, hq⟩ := hq
  obtain ⟨u182, hq⟩ := hq
  obtain ⟨u183, hq⟩ := hq
  obtain ⟨u184, hq⟩ := hq
  obtain ⟨u185, hq⟩ := hq
  obtain ⟨u186, hq⟩ := hq
  obtain ⟨u187, hq⟩ := hq
  obtain ⟨u188, hq⟩ := hq
  obtain ⟨u189, hq⟩ := hq
  obtain ⟨u190, hq⟩ := hq
  obtain ⟨u191, hq⟩ := hq
  obtain ⟨u192, hq⟩ := hq
  obtain ⟨u193, hq⟩ := hq
  obtain ⟨u194, hq⟩ := hq
  obtain ⟨u195, hq⟩ := hq
  obtain ⟨u196, hq⟩ := hq
  obtain ⟨u197, hq⟩ := hq
  obtain ⟨u198, hq⟩ := hq
  obtain ⟨u199, hq⟩ := hq
  obtain ⟨⟨hP6, hS6, hW6⟩, rfl⟩ := hq
  have hB6 : Below W1.heap.size W1 W6 := Below.of_wid hB5 (by simp only [World.size_alloc]; omega) hW6 (fun k hk => ⟨by omega, by omega⟩)
  have hF6 := (((HF3.out.alloc (.cells (madeCells #[.int .i32 0] m) 21)).alloc (.cells (madeCells #[.int .u64 0] m) 24))).same (hW6.block W1.heap.size (by simp only [World.size_alloc]; omega) ⟨by omega, by omega⟩)
  have HP6 := Hid.intro hP6
  have HS6 := Hid.intro hS6
  have HB6 := Hid.intro hB6
  have HF6 := Hid.intro hF6
  have hz6 := hB6.size
  clear hP5 hS5 hB5 hBw5 hP6 hS6 hW6 hB6 hF6 hmk3 hmk4
  go_upto_region 50 with fail
  refine wp_then (law_reg50 _ _ _ _ _ _ _ _ _ _ _ _ _ _ _ _ _ _ _ _ _ _ _ _ _ _ _ _ _ _ _ _ _ _ _ _ _ _ _ _ _ _ _ _ _ _ _ _ _ _ _ _ _ _ _ _ _ _ _ _ _ _ _ _ _ _ _ _ _ _ _ _ _ _ _ _ _ _ _ _ _ _ _ _ _ _ _ _ _ _ _ _ _ _ _ _ _ _ _ _ _ _ _ _ _ _ _ _ _ _ _ _ _ _ _ _ _ _ _ _ _ _ _ _ _ _ _ _ _ _ _ _ _ _ _ _ _ _ _ _ _ _ _ _ _ _ _ _ _ _ _ _ _ _ _ _ _ _ _ _ _ _ _ _ _ _ _ _ _ _ _ _ _ _ _ _ _ _ _ _ _ _ _ _ _ _ _ _ _ _ _ _ _ _ _ _ _ _ _ _ _ _ _ _ _ _ _ _ _ _ _ _ _ _ _ _ _ _ _ _ _ _ _ _ _ _ _ _ _ _ _ _ _ _ _ _ _ _ _ _ _ _ _ _ _ _ _ _ _ _ _ _ _ _ _ _ _ _ _ _ _ _ _ _ _ _ _ _ _ _ _ _ _ _ _ _ _ _ _ _ _ _ _ _ _ _ _ _ _ _ _ _ _ _ _ _ _ _ _ _ _ _ _ _ _ _ _ _ _ _ _ _ _ _ _ _ _ _ _ _ _ _ _ _ _ _ _ W6 (w.heap.size + 1 + 1 + 1 + 1) W1.heap.size W3.heap.size (W3.heap.size + 1) n m (kl (tri m0 m1 m2) (n * 8)).length cap (some ⟨gv, 0, none⟩) hn3 hn1) ?_
  intro a' W7 hq
  obtain ⟨ge, hq⟩ := hq
  obtain ⟨pb, hq⟩ := hq
  obtain ⟨sb, hq⟩ := hq
  obtain ⟨vb, hq⟩ := hq
  obtain ⟨u200, hq⟩ := hq
  obtain ⟨u201, hq⟩ := hq
  obtain ⟨u202, hq⟩ := hq
  obtain ⟨u203, hq⟩ := hq
  obtain ⟨u204, hq⟩ := hq
  obtain ⟨u205, hq⟩ := hq
  obtain ⟨u206, hq⟩ := hq
  obtain ⟨u207, hq⟩ := hq
  obtain ⟨u208, hq⟩ := hq
  obtain ⟨u209, hq⟩ := hq
  obtain ⟨u210, hq⟩ := hq
  obtain ⟨u211, hq⟩ := hq
  obtain ⟨u212, hq⟩ := hq
  obtain ⟨u213, hq⟩ := hq
  obtain ⟨u214, hq⟩ := hq
  obtain ⟨u215, hq⟩ := hq
  obtain ⟨u216, hq⟩ := hq
  obtain ⟨u217, hq⟩ := hq
  obtain ⟨u218, hq⟩ := hq
  obtain ⟨u219, hq⟩ := hq
  obtain ⟨⟨he7, hpb7, hsb7, hvb7, hB7⟩, rfl⟩ := hq
  have hLd := Laid.make (ep := ep) (ek := ek) (l2 := l2) HLA.out HV.out H1.out H2.out H3.out H4.out (HB6.out.trans (hB7.mono hz6)) (HF6.out.same (hB7.block _ HF6.out.lt)) (HP6.out.same (hB7.block _ HP6.out.lt)) (HS6.out.same (hB7.block _ HS6.out.lt)) he7 hpb7 hsb7 hvb7
  have HLD := Hid.intro hLd
  have HOK := Hid.intro (mkT_ok vb (w.heap.size + 1 + 1 + 1 + 1) gv cap W1.heap.size ge pb W3.heap.size sb (W3.heap.size + 1) n m (tri m0 m1 m2) (tri p0 p1 p2) NV CV l2 ep ek hn3 hn1 hm hcap1 hcap2 HPF.out)
  clear hLd he7 hpb7 hsb7 hvb7 hB7
  go_upto_block 10 with fail
  refine wp_then (law_blk10 _ _ _ _ _ _ _ _ _ _ _ _ _ _ _ _ _ _ _ _ _ _ _ _ _ _ _ _ _ _ _ _ _ _ _ _ _ _ _ _ _ _ _ _ _ _ _ _ _ _ _ _ _ _ _ _ _ _ _ _ _ _ _ _ _ _ _ _ _ _ _ _ _ _ _ _ _ _ _ _ _ _ _ _ _ _ _ _ _ _ _ _ _ _ _ _ _ _ _ _ _ _ _ _ _ _ _ _ _ _ _ _ _ _ _ _ _ _ _ _ _ _ _ _ _ _ _ _ _ _ _ _ _ _ _ _ _ _ _ _ _ _ _ _ _ _ _ _ _ _ _ _ _ _ _ _ _ _ _ _ _ _ _ _ _ _ _ _ _ _ _ _ _ _ _ _ _ _ _ _ _ _ _ _ _ _ _ _ _ _ _ _ _ _ _ _ _ _ _ _ _ _ _ _ _ _ _ _ _ _ _ _ _ _ _ _ _ _ _ _ _ _ _ _ _ _ _ _ _ _ _ _ _ _ _ _ _ _ _ _ _ _ _ _ _ _ _ _ _ _ _ _ _ _ _ _ _ _ _ _ _ _ _ _ _ _ _ _ _ _ _ _ _ _ _ _ _ _ _ _ _ _ _ _ _ _ _ _ _ _ _ _ _ _ _ _ _ _ _ _ _ _ _ _ _ _ _ _ _ _ _ _ _ _ _ _ _ _ _ _ _ _ _ _ _ _ w W7 _ _ _ _ _ _ _ _ _ _ _ _ _ _ _ _ _ _ _ _ _ _ _ _ HOK.out HLD.out HPF.out) ?_
  intro a' W8 hq
  obtain ⟨u12, hq⟩ := hq
  obtain ⟨u35, hq⟩ := hq
  obtain ⟨u36, hq⟩ := hq
  obtain ⟨u37, hq⟩ := hq
  obtain ⟨u38, hq⟩ := hq
  obtain ⟨u39, hq⟩ := hq
  obtain ⟨u40, hq⟩ := hq
  obtain ⟨u41, hq⟩ := hq
  obtain ⟨u220, hq⟩ := hq
  obtain ⟨u221, hq⟩ := hq
  obtain ⟨u222, hq⟩ := hq
  obtain ⟨u223, hq⟩ := hq
  obtain ⟨u224, hq⟩ := hq
  obtain ⟨u225, hq⟩ := hq
  obtain ⟨u226, hq⟩ := hq
  obtain ⟨u227, hq⟩ := hq
  obtain ⟨u228, hq⟩ := hq
  obtain ⟨u229, hq⟩ := hq
  obtain ⟨u230, hq⟩ := hq
  obtain ⟨u231, hq⟩ := hq
  obtain ⟨u232, hq⟩ := hq
  obtain ⟨u233, hq⟩ := hq
  obtain ⟨u234, hq⟩ := hq
  obtain ⟨u235, hq⟩ := hq
  obtain ⟨u236, hq⟩ := hq
  obtain ⟨u237, hq⟩ := hq
  obtain ⟨u238, hq⟩ := hq
  obtain ⟨u239, hq⟩ := hq
  obtain ⟨u240, hq⟩ := hq
  obtain ⟨u241, hq⟩ := hq
  obtain ⟨u242, hq⟩ := hq
  obtain ⟨u243, hq⟩ := hq
  obtain ⟨u244, hq⟩ := hq
  obtain ⟨u245, hq⟩ := hq
  obtain ⟨u246, hq⟩ := hq
  obtain ⟨u247, hq⟩ := hq
  obtain ⟨u248, hq⟩ := hq
  obtain ⟨u249, hq⟩ := hq
  obtain ⟨u250, hq⟩ := hq
  obtain ⟨u251, hq⟩ := hq
  obtain ⟨u252, hq⟩ := hq
  obtain ⟨u253, hq⟩ := hq
  obtain ⟨u254, hq⟩ := hq
  obtain ⟨u255, hq⟩ := hq
  obtain ⟨u256, hq⟩ := hq
  obtain ⟨u257, hq⟩ := hq
  obtain ⟨u258, hq⟩ := hq
  obtain ⟨u259, hq⟩ := hq
  obtain ⟨u260, hq⟩ := hq
  obtain ⟨u261, hq⟩ := hq
  obtain ⟨u262, hq⟩ := hq
  obtain ⟨u263, hq⟩ := hq
  obtain ⟨u264, hq⟩ := hq
  obtain ⟨u265, hq⟩ := hq
  obtain ⟨u266, hq⟩ := hq
  obtain ⟨u267, hq⟩ := hq
  obtain ⟨u268, hq⟩ := hq
  obtain ⟨u269, hq⟩ := hq
  obtain ⟨u270, hq⟩ := hq
  obtain ⟨u271, hq⟩ := hq
  obtain ⟨u272, hq⟩ := hq
  obtain ⟨u273, hq⟩ := hq
  obtain ⟨u274, hq⟩ := hq
  obtain ⟨u275, hq⟩ := hq
  obtain ⟨u276, hq⟩ := hq
  obtain ⟨u277, hq⟩ := hq
  obtain ⟨u278, hq⟩ := hq
  obtain ⟨u279, hq⟩ := hq
  obtain ⟨u280, hq⟩ := hq
  obtain ⟨u281, hq⟩ := hq
  obtain ⟨u282, hq⟩ := hq
  obtain ⟨u283, hq⟩ := hq
  obtain ⟨u284, hq⟩ := hq
  obtain ⟨u285, hq⟩ := hq
  obtain ⟨u286, hq⟩ := hq
  obtain ⟨u287, hq⟩ := hq
  obtain ⟨u288, hq⟩ := hq
  obtain ⟨u289, hq⟩ := hq
  obtain ⟨u290, hq⟩ := hq
  obtain ⟨u291, hq⟩ := hq
  obtain ⟨u292, hq⟩ := hq
  obtain ⟨hB8, rfl⟩ := hq
  have HLD8 := Hid.intro (HLD.out.mono hB8)
  clear hB8
  go_upto_block 16 with fail
  refine wp_then (law_blk16 _ _ _ _ _ _ _ _ _ _ _ _ _ _ _ _ _ _ _ _ _ _ _ _ _ _ _ _ _ _ _ _ _ _ _ _ _ _ _ _ _ _ _ _ _ _ _ _ _ _ _ _ _ _ _ _ _ _ _ _ _ _ _ _ _ _ _ _ _ _ _ _ _ _ _ _ _ _ _ _ _ _ _ _ _ _ _ _ _ _ _ _ _ _ _ _ _ _ _ _ _ _ _ _ _ _ _ _ _ _ _ _ _ _ _ _ _ _ _ _ _ _ _ _ _ _ _ _ _ _ _ _ _ _ _ _ _ _ _ _ _ _ _ _ _ _ _ _ _ _ _ _ _ _ _ _ _ _ _ _ _ _ _ _ _ _ _ _ _ _ _ _ _ _ _ _ _ _ _ _ _ _ _ _ _ _ _ _ _ _ _ _ _ _ _ _ _ _ _ _ _ _ _ _ _ _ _ _ _ _ _ _ _ _ _ _ _ _ _ _ _ _ _ _ _ _ _ _ _ _ _ _ _ _ _ _ _ _ _ _ _ _ _ _ _ _ _ _ _ _ _ _ _ _ _ _ _ _ _ _ _ _ _ _ _ _ _ _ _ _ _ _ _ _ _ _ _ _ _ _ _ _ _ _ _ _ _ _ _ _ _ _ _ _ _ _ _ _ _ _ _ _ _ _ _ _ _ _ _ _ _ _ _ _ _ _ _ _ _ _ _ _ _ _ _ _ _ _ w W8 _ _ _ _ _ _ _ _ _ _ _ _ _ _ _ _ _ _ _ _ _ _ _ _ hn3 HLD8.out) ?_
  intro a' W9 hq
  obtain ⟨u12, hq⟩ := hq
  obtain ⟨u42, hq⟩ := hq
  obtain ⟨u43, hq⟩ := hq
  obtain ⟨u44, hq⟩ := hq
  obtain ⟨u45, hq⟩ := hq
  obtain ⟨u293, hq⟩ := hq
  obtain ⟨u294, hq⟩ := hq
  obtain ⟨u295, hq⟩ := hq
  obtain ⟨u296, hq⟩ := hq
  obtain ⟨u297, hq⟩ := hq
  obtain ⟨u298, hq⟩ := hq
  obtain ⟨u299, hq⟩ := hq
  obtain ⟨u300, hq⟩ := hq
  obtain ⟨u301, hq⟩ := hq
  obtain ⟨u302, hq⟩ := hq
  obtain ⟨u303, hq⟩ := hq
  obtain ⟨u304, hq⟩ := hq
  obtain ⟨u305, hq⟩ := hq
  obtain ⟨u306, hq⟩ := hq
  obtain ⟨u307, hq⟩ := hq
  obtain ⟨u308, hq⟩ := hq
  obtain ⟨u309, hq⟩ := hq
  obtain ⟨u310, hq⟩ := hq
  obtain ⟨u311, hq⟩ := hq
  obtain ⟨u312, hq⟩ := hq
  obtain ⟨u313, hq⟩ := hq
  obtain ⟨u314, hq⟩ := hq
  obtain ⟨u315, hq⟩ := hq
  obtain ⟨u316, hq⟩ := hq
  obtain ⟨u317, hq⟩ := hq
  obtain ⟨u318, hq⟩ := hq
  obtain ⟨u319, hq⟩ := hq
  obtain ⟨u320, hq⟩ := hq
  obtain ⟨u321, hq⟩ := hq
  obtain ⟨u322, hq⟩ := hq
  obtain ⟨u323, hq⟩ := hq
  obtain ⟨u324, hq⟩ := hq
  obtain ⟨u325, hq⟩ := hq
  obtain ⟨u326, hq⟩ := hq
  obtain ⟨u327, hq⟩ := hq
  obtain ⟨u328, hq⟩ := hq
  obtain ⟨u329, hq⟩ := hq
  obtain ⟨u330, hq⟩ := hq
  obtain ⟨u331, hq⟩ := hq
  obtain ⟨u332, hq⟩ := hq
  obtain ⟨u333, hq⟩ := hq
  obtain ⟨hB9, rfl⟩ := hq
  have hBf := HLD8.out.bel.trans (hB9.mono HLD8.out.bel.size)
  clear hB9
  go_wp2
  go_ret
  exact ⟨rfl, hBf⟩

end Go.Proofs.YbulkcjpqFmt
