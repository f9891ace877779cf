import Derived.Test.YbulkcjpqRows
import Derived.Test.YbulkcjpqChunks
import Derived.ProofKit
import Derived.OpenShut
import Derived.Handy
import Derived.WalkLawsBesides
import Derived.Outline
import Derived.BigRegion
import Derived.RegionTactic
import Derived.Deep.CutRange
import Derived.Deep.DeepCutAuto
import Derived.Deep.LoopGhost
namespace Go.Proofs.Ybulkcjpq
open Go.RowKit Go.Deep
set_option linter.unusedVariables false
set_option linter.unusedSimpArgs false

theorem Yba.info34 : (Yba.prog.info? 34).map (fun i => (i.zero, i.size, i.bytes)) = some (some (.slice none 0 0), 1, 24) := by kernel_rfl
theorem Yba.info3 : (Yba.prog.info? 3).map (fun i => (i.zero, i.size, i.bytes)) = some (some (.int .i64 0), 1, 8) := by kernel_rfl

theorem make4 (w : World) : (Instr.makeSlice 34 (.int .i64 4096) (.int .i64 4096)).run Yba.prog w = .ok (.slice (some ⟨w.heap.size, 0, none⟩) 4096 4096) (w.alloc (.cells zs4 3)) :=
  run_make_row' (P := Yba.prog) 34 3 (.int .i64 0) 8 Yba.underlying34 Yba.info3 rfl .i64 .i64 4096 (by omega) (by omega) w

theorem own2 {w : World} {base cb : Nat} {f : Nat → Int} {n : Nat} {v : Value} {gs : List Nat} (h : Mid w base cb f n v gs) (a b : Obj) : ((w.alloc a).alloc b).drew.ownsRow base 34 1 v gs.length (gs.map blk) := (h.own.alloc a).alloc b

theorem news1 (w : World) (a : Obj) : ∀ j u, [blk w.heap.size][j]? = some u → ((w.alloc a).alloc (.cells #[blk w.heap.size] 34)).drew.cell? ((⟨w.heap.size + 1, 0, none⟩ : Addr).add j) = some u := by
  intro j u hj
  match j, hj with
  | 0, hj =>
    simp at hj
    subst hj
    show ((w.alloc a).alloc (.cells #[blk w.heap.size] 34)).cell? ⟨w.heap.size + 1, 0, none⟩ = _
    rw [World.cell?_alloc2_new]
    rfl

theorem grown_drew {w w' : World} {row : Option Nat} (h : w.drew.grownBy w' row) : w.grownBy w' row := ⟨h.os, h.tape, h.output, h.size, h.block⟩

theorem after2 {w w3 : World} {base cb : Nat} {f : Nat → Int} {n : Nat} {v : Value} {gs : List Nat} (h : Mid w base cb f n v gs) {a b : Obj} (hg : ((w.alloc a).alloc b).drew.grownBy w3 v.ownBlock) : w3.heap[cb]? = some (.cells #[v, .int .i64 n] 37 (0, 0)) := by
  have hl := lt_of_block h.here
  rw [hg.block cb (by simp; omega) (fun e => h.ownNe e.symm)]
  show ((w.alloc a).alloc b).heap[cb]? = _
  rw [Below.heap_alloc _ _ _ (by simp; omega), Below.heap_alloc _ _ _ hl]
  exact h.here
theorem after0 {w w3 : World} {base cb : Nat} {f : Nat → Int} {n : Nat} {v : Value} {gs : List Nat} (h : Mid w base cb f n v gs) {a b : Obj} (hg : ((w.alloc a).alloc b).drew.grownBy w3 v.ownBlock) : w3.frozen? ⟨cb, 0, none⟩ = false := two_free (after2 h hg) 0
theorem after1 {w w3 : World} {base cb : Nat} {f : Nat → Int} {n : Nat} {v : Value} {gs : List Nat} (h : Mid w base cb f n v gs) {a b : Obj} (hg : ((w.alloc a).alloc b).drew.grownBy w3 v.ownBlock) : w3.cell? ⟨cb, 0, none⟩ = some v := two_cell0 (after2 h hg)

set_option maxHeartbeats 800000 in
theorem append_any (w : World) (base cb : Nat) (f : Nat → Int) (n : Nat) (v : Value) (gs : List Nat) (x : Int) (h : Ch w base cb f n v gs) (hn : n ≤ 1000000) :
    Calls Yba.prog 13 #[.pointer (some ⟨cb, 0, none⟩), .int .i64 x] w fun e w' => e = .returned (.tuple #[]) ∧ ∃ f' v' gs', Ch w' base cb f' (n + 1) v' gs' ∧ f' n = x ∧ (∀ k, k ≠ n → f' k = f k ∨ (n < k ∧ f' k = 0)) ∧ Kept (foot cb v gs) w w' ∧ (∀ k ∈ gs', k ∈ gs ∨ w.heap.size ≤ k) := by
  have c0 := two_cell0 h.1.here
  have c1 := two_cell1 h.1.here
  have hmk := make4
  obtain ⟨i0, hi, hz0, hz1, hz2⟩ := info_parts Yba.info34
  have hlen : gs.length ≤ 1000000 := by have := h.2; omega
  have ca1 : ∀ o, (w.alloc o).cell? ⟨cb, 0, none⟩ = some v := fun o => Lib.cell?_alloc_some o c0
  have ca2 : ∀ o o', ((w.alloc o).alloc o').cell? ⟨cb, 0, none⟩ = some v := fun o o' => Lib.cell?_alloc_some o' (ca1 o)
  go_enter Yba.func13, Yba.ntmps13
  go_upto_if 9 with fail
  go_cut [] (fun wc => ∃ f1 v1 gs1, Room w wc base cb f n v gs f1 v1 gs1)
  case first =>
    by_cases hz : n % 4096 = 0
    · have hb : (((n : Int) % 4096) == 0) = true := by simp; omega
      go_wp2_with fail
      go_region_law (refine step_append_own rfl (.tmp 14) (.tmp 16) 35 rfl base 34 i0 (.slice none 0 0) 1 24 Yba.underlying35 hi hz0 hz1 hz2 rfl (by decide) v gs.length (gs.map blk) (by simp [Act.eval, Act.put]) (own2 h.1 _ _) ⟨w.heap.size + 1, 0, none⟩ 1 1 [blk w.heap.size] (by simp [Act.eval, Act.put]) rfl (news1 _ _) (by simp [blk, Value.oneCell']) (by unfold maxLen; omega) (by omega) (by have := h.1.size; simp; omega) (by omega) ?_; (intro g cap w3 hown3 hgrow3; have hfr := after0 h.1 hgrow3; have hce := after1 h.1 hgrow3))
      all_goals go_wp2_with fail
      all_goals go_meet
      all_goals exact ⟨_, _, _, Room.grow h hz hown3 (grown_drew hgrow3)⟩
    · have hb : (((n : Int) % 4096) == 0) = false := by simp; omega
      go_wp2_with fail
      go_meet
      exact ⟨f, v, gs, Room.stay h hz⟩
  case rest =>
    obtain ⟨f1, v1, gs1, hR⟩ := hcut
    clear c0 c1 ca1 ca2 hmk
    have hR' := hR
    obtain ⟨hM, hlen1, _, _, _⟩ := hR'
    obtain ⟨g, cap, rfl, hgb⟩ := hM.form (by omega)
    obtain ⟨b, hb⟩ : ∃ b, gs1[n / 4096]? = some b := ⟨_, List.getElem?_eq_getElem (by omega)⟩
    have c0 := two_cell0 hM.here
    have c1 := two_cell1 hM.here
    have fr1 := two_free hM.here 1
    have cg : wc.cell? ⟨g, n / 4096, none⟩ = some (.slice (some ⟨b, 0, none⟩) 4096 4096) := hM.at hb
    have cbk := (hM.rows _ b hb).2.cell (i := n % 4096) (by omega)
    have fbk := (hM.rows _ b hb).2.frozen (n % 4096)
    have hne : cb ≠ b := by have := (hM.rows _ b hb).1; have := hM.lo; omega
    have hlt : (n : Int) / 4096 < (gs1.length : Int) := by omega
    have HR : Hid (Room w wc base cb f n v gs f1 (.slice (some ⟨g, 0, none⟩) gs1.length cap) gs1) := hR
    have HB : Hid (gs1[n / 4096]? = some b) := hb
    clear hR hM hb h
    have HL : Hid (gs1.length = n / 4096 + 1) := hlen1
    clear hlen1
    go_wp2_with fail
    go_region
    go_wp2
    go_end0
    obtain ⟨f', v', gs', p1, p2, p3, p4, p5⟩ := HR.out.put HB.out x
    exact ⟨rfl, f', v', gs', ⟨p1.1.drew, p1.2⟩, p2, p3, p4.drew, p5⟩
end Go.Proofs.Ybulkcjpq
