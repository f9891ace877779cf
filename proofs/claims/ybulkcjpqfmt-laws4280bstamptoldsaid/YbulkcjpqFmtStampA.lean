import Derived.Test.YbulkcjpqFmtJoinE
import Derived.Deep.CutBlock
namespace Go.Proofs.YbulkcjpqFmt
open Go.ChangeShapes Go.WideShapes Go.ChangeAt Go.RowKit Go.Deep
set_option linter.unusedVariables false
set_option linter.unusedSimpArgs false

theorem keepS {T : Tr} {W w' : World} (hI : T.In W) (hB : Below W.heap.size W w') : w'.cell? ⟨T.vb, 3, none⟩ = some (.string (ByteArray.extract ⟨#[97, 98, 99]⟩ 0 T.n)) ∧ w'.cell? ⟨T.vb, 4, none⟩ = some (.slice (some ⟨T.ge, 0, none⟩) T.n 3) ∧ Below W.heap.size W w' :=
  ⟨(hI.mono (below_cells hB)).v3, (hI.mono (below_cells hB)).v4, hB⟩

theorem blk_new1 (w : World) (o1 o2 : Obj) : ((w.alloc o1).alloc o2).heap[w.heap.size + 1]? = some o2 := by
  have := heap_alloc_new (w.alloc o1) o2
  simpa using this
theorem blk_old1 (w : World) (o1 o2 : Obj) : ((w.alloc o1).alloc o2).heap[w.heap.size]? = some o1 :=
  (Below.heap_alloc _ _ _ (by simp)).trans (heap_alloc_new w o1)
theorem cell_of_block1 {w : World} {g : Nat} {u : Value} {t : TypeId} (h : w.heap[g]? = some (.cells #[u] t (0, 0))) : w.cell? ⟨g, 0, none⟩ = some u := by simp [World.cell?, h]

set_option maxHeartbeats 4000000 in
set_option maxRecDepth 20000 in
theorem stamp_reg6 (v2 v3 v4 v5 v7 v8 v9 v10 v11 v12 v13 v14 v15 v16 v17 v18 v19 v20 v21 v22 v23 v24 v25 v26 v27 v28 v29 v30 v31 v32 v33 v34 v35 v36 v37 v38 v39 v40 v41 v42 v43 v44 v45 v46 v47 v48 v49 v50 v51 v52 v53 v54 v55 v56 v57 v58 v59 v60 v61 v62 v63 v64 v65 v66 : Value) (T : Tr) (hT : T.Ok) (i : Nat) (hi : i < T.m) (W : World) (hI : T.In W) :
    Code.wp Ybaf.prog (regIn Ybaf.f6 6) (Exit.then (fun a' w' => ∃ (gt g9 : Nat) (u31 u32 u33 u34 u35 u36 u37 u38 u39 u40 u41 u42 u43 u44 u45 u46 : Value), (w'.heap[gt]? = some (.cells #[.string (nameB (T.PR i))] 9 (0, 0)) ∧ W.heap.size ≤ gt ∧ w'.heap[g9]? = some (.cells #[.slice (some ⟨gt, 0, none⟩) 1 1, .slice (some ⟨T.gs, i, none⟩) 1 1] 37 (0, 0)) ∧ W.heap.size ≤ g9 ∧ Below W.heap.size W w') ∧ a' = ⟨#[.pointer (some ⟨T.vb, 0, none⟩), .int .i64 (i : Int), v2, v3, v4, v5, .int .i32 (T.PR i : Int), v7, v8, .pointer (some ⟨g9, 0, none⟩), .nilIface, v11, v12, v13, v14, v15, v16, v17, v18, v19, v20, v21, v22, v23, v24, v25, v26, v27, v28, v29, v30, u31, u32, u33, u34, u35, u36, u37, u38, u39, u40, u41, u42, u43, u44, u45, u46, v47, v48, v49, v50, v51, v52, v53, v54, v55, v56, v57, v58, v59, v60, v61, v62, v63, v64, v65, v66], []⟩) (fun _ _ _ => False)) ⟨#[.pointer (some ⟨T.vb, 0, none⟩), .int .i64 (i : Int), v2, v3, v4, v5, .int .i32 (T.PR i : Int), v7, v8, v9, v10, v11, v12, v13, v14, v15, v16, v17, v18, v19, v20, v21, v22, v23, v24, v25, v26, v27, v28, v29, v30, v31, v32, v33, v34, v35, v36, v37, v38, v39, v40, v41, v42, v43, v44, v45, v46, v47, v48, v49, v50, v51, v52, v53, v54, v55, v56, v57, v58, v59, v60, v61, v62, v63, v64, v65, v66], []⟩ W := by
  conv => arg 2; whnf
  have hm := hT.m1
  have hn3 := hT.n3
  have hp := hT.PR1 i hi
  have hsq := hT.SQ1 i hi
  have hB0 : Below W.heap.size W W := Below.refl _ _
  have HI := Hid.intro hI
  have hS := keepS hI hB0
  clear hI
  go_region_held3 (fun w' => w'.cell? ⟨T.vb, 3, none⟩ = some (.string (ByteArray.extract ⟨#[97, 98, 99]⟩ 0 T.n)) ∧ w'.cell? ⟨T.vb, 4, none⟩ = some (.slice (some ⟨T.ge, 0, none⟩) T.n 3) ∧ Below W.heap.size W w')
    ((go_split_ands; refine keepS HI.out ?_; first | assumption | exact hBw5 | exact hBw1 | exact Below.alloc hBw5 (Below.size hBw5) _ | exact Below.setCell (Below.setCell hBw5 (p := ⟨_, 0, none⟩) (by have := hBw1.size; simp <;> omega) _) (p := ⟨_, 1, none⟩) (by have := hBw1.size; simp <;> omega) _ | exact Below.drew (by assumption) | exact Below.alloc (by assumption) (Below.size (by assumption)) _ | exact Below.trans (by assumption) (Below.mono hB1 (Below.size (by assumption))) | exact Below.trans (by assumption) (Below.mono hB5 (Below.size (by assumption)))))
    (first | (go_at_call 10; refine (name_p T.n (T.PR i) T.ge _ hn3 hp ?_).mono ?_; (go_split_ands; exact (HI.out.mono (below_cells (by assumption))).en); rintro e w1 ⟨rfl, hB1⟩; have hBw1 : Below W.heap.size W w1 := (by go_split_ands; exact Below.trans (by assumption) (Below.mono hB1 (Below.size (by assumption)))); (try have h9 := (hB1.block _ (by simp)).trans (heap_alloc_new _ (.cells #[.slice none 0 0, .slice none 0 0] 37)))) | (go_at_call 11; refine (cell_any T.vb 7 T.sb T.gs T.m i _ hi hm ?_ ?_).mono ?_; (go_split_ands; exact (HI.out.mono (below_cells (by assumption))).v7); (go_split_ands; exact (HI.out.mono (below_cells (by assumption))).s0); rintro e w2 ⟨rfl, rfl⟩) | (go_at_call 5; refine (stampOf_any _ 1 _ 1 1 (fun _ => T.PR i) (fun _ => (T.SQ i : Int) + 1) _ (by omega) (fun _ _ => by omega) (fun a b h1 h2 => by omega) (fun _ _ => by omega) (fun _ => ⟨_, 0, rfl, fun t ht => ?_⟩) (fun _ => ⟨_, i, rfl, fun t ht => ?_⟩)).mono ?_; (obtain rfl : t = 0 := (by omega); exact cell_of_block1 (by first | exact heap_alloc_new _ _ | exact blk_new1 _ _ _ | exact blk_old1 _ _ _)); (obtain rfl : t = 0 := (by omega); go_split_ands; exact (HI.out.mono (below_cells (by assumption))).sq i hi); (rintro e w5 ⟨rfl, hB5⟩; have hBw5 : Below W.heap.size W w5 := (by go_split_ands; exact Below.trans (by assumption) (Below.mono hB5 (Below.size (by assumption)))); first | have hgt5 := (hB5.block _ (by simp)).trans (blk_new1 _ _ (.cells #[.string (nameB (T.PR i))] 9)) | have hgt5 := (hB5.block _ (by simp)).trans (heap_alloc_new _ (.cells #[.string (nameB (T.PR i))] 9)) | have hgt5 := (hB5.block _ (by simp; omega)).trans (blk_old1 _ (.cells #[.string (nameB (T.PR i))] 9) _)); (try ((first | have h95 := (hB5.block _ (by simp; omega)).trans (blk_old1 _ (.cells #[.slice none 0 0, .slice none 0 0] 37) _) | have h95 := (hB5.block _ (by simp)).trans (blk_new1 _ _ (.cells #[.slice none 0 0, .slice none 0 0] 37)) | have h95 := (hB5.block _ (by have := lt_of_block h9; simp; omega)).trans ((Below.heap_alloc _ _ _ (lt_of_block h9)).trans h9)); have c950 := two_cell0 h95; have c951 := two_cell1 h95; have f950 := two_free h95 0; have f951 := two_free h95 1))))
  all_goals (
    have z1 := hBw1.size
    try have z2 := lt_of_block h9
    clear hS hB0
    first
      | exact ⟨_, _, _, _, _, _, _, _, _, _, _, _, _, _, _, _, _, _, ⟨(Below.heap_alloc _ _ _ (lt_of_block hgt5)).trans hgt5, by omega, heap_alloc_new _ _, hBw5.size, Below.alloc hBw5 hBw5.size _⟩, rfl⟩
      | exact ⟨_, _, _, _, _, _, _, _, _, _, _, _, _, _, _, _, _, _, ⟨(Below.heap_setCell _ _ _ _ (by simp <;> omega)).trans ((Below.heap_setCell _ _ _ _ (by simp <;> omega)).trans hgt5), by omega, two_set1 (two_set0 h95), by omega, (hBw5.setCell (by simp <;> omega) _).setCell (by simp <;> omega) _⟩, rfl⟩)

end Go.Proofs.YbulkcjpqFmt
