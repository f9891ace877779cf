import Derived.Test.YbulkcjpqAppend
import Derived.Test.YbulkcjpqFillPlain
namespace Go.Proofs.Ybulkcjpq
open Go.RowKit Go.Deep
set_option linter.unusedVariables false
set_option linter.unusedSimpArgs false

def fill3 (k : Nat) : List Int := (List.range k).map (fun j : Nat => (j : Int) * 3 + 1)
theorem fill3_len (k : Nat) : (fill3 k).length = k := by simp [fill3]
theorem fill3_succ (k : Nat) : fill3 (k + 1) = fill3 k ++ [(k : Int) * 3 + 1] := by simp [fill3, List.range_succ]

theorem take_succ_getD (zs : List Int) (j : Nat) (h : j < zs.length) : zs.take (j + 1) = zs.take j ++ [zs.getD j 0] := by
  rw [List.take_succ_eq_append_getElem h]
  simp [List.getD, h]

theorem new1 (w : World) (u : Value) (t : TypeId) : ∀ j x, [u][j]? = some x → (w.alloc (.cells #[u] t)).cell? ((⟨w.heap.size, 0, none⟩ : Addr).add j) = some x := by
  intro j x hj
  match j, hj with
  | 0, hj =>
    simp at hj
    subst hj
    show (w.alloc (.cells #[u] t)).cell? ⟨w.heap.size, 0, none⟩ = _
    rw [World.cell?_alloc_new]
    rfl

theorem append_fill {w0 w : World} {cb gw cap n : Nat} {xs : List Int} (x : Int) (h : Fill w0 w cb gw cap n xs) (hn : n ≤ 1000000) :
    Calls Yba.prog 13 #[.pointer (some ⟨cb, 0, none⟩), .int .i64 x] w fun e w' => e = .returned (.tuple #[]) ∧ FillMid w0 w' cb gw cap n xs x := by
  obtain ⟨hl, ho, hk, f, v, gs, hc, hg, hf⟩ := h
  refine (append_any w w0.heap.size cb f n v gs x hc hn).mono ?_
  rintro e w1 ⟨rfl, f', v', gs', c1, c2, c3, c4, c5⟩
  exact ⟨rfl, fill_mid hl ho hk hc hg hf c1 c2 c3 c4 c5⟩

set_option maxHeartbeats 1000000 in
theorem fill_any (w : World) (cb m len cap0 : Nat) (a : Option Addr) (zs : List Int) (hm : m ≤ 100000) (hl : len ≤ 1024) (hz : len ≤ zs.length)
    (hc : w.heap[cb]? = some (.cells #[.slice none 0 0, .int .i64 0] 37 (0, 0)))
    (ha : 0 < len → ∃ b off, a = some ⟨b, off, none⟩ ∧ b ≠ cb ∧ ∀ i, i < len → w.cell? ⟨b, off + i, none⟩ = some (.int .i64 (zs.getD i 0))) :
    Calls Yba.prog 10 #[.pointer (some ⟨cb, 0, none⟩), .int .i64 m, .slice a len cap0] w fun e w' => e = .returned (.slice (some ⟨w.heap.size, 0, none⟩) (m + len) (m + len)) ∧ Fill w w' cb w.heap.size (m + len) (m + len) (fill3 m ++ zs.take len) := by
  obtain ⟨i0, hi, hz0, hz1, hz2⟩ := info_parts Yba.info3
  go_enter Yba.func10, Yba.ntmps10
  go_wp2_with (at_make; refine wpList_make_own _ rfl (.const (.int .i64 0)) (.tmp 15) 34 rfl w.heap.size 3 i0 (.int .i64 0) 1 Yba.underlying34 hi hz0 hz1 .i64 .i64 _ (m + len) rfl rfl (by omega) (by rw [hz2]; omega) (by unfold maxLen; omega) (Nat.le_refl _) ?_)
  intro w1 hown1 hgrow1
  have F0 := Fill.start w hc hown1 hgrow1
  clear hown1 hgrow1
  go_wp2_with fail
  go_loopw [7, 8] (fun v i wr => ∃ k : Nat, k ≤ m ∧ i = .int .i64 k ∧ v = .slice (some ⟨w.heap.size, 0, none⟩) k (m + len) ∧ Fill w wr cb w.heap.size (m + len) k (fill3 k)) (fun _ i _ => m - (intOf i).toNat)
  case atStart => exact ⟨0, Nat.zero_le _, rfl, rfl, F0⟩
  case round =>
    obtain ⟨k, hk, rfl, rfl, hF⟩ := hrel
    by_cases hlt : k < m
    · go_wp2_with fail
      refine (append_fill _ hF (by omega)).mono ?_
      rintro e w2 ⟨rfl, hM⟩
      clear hF
      have hown := hM.2.1
      go_wp2_with (at_builtin; refine wpList_append_fits _ rfl (.tmp 28) (.tmp 30) 34 rfl w.heap.size 3 i0 1 Yba.underlying34 hi hz1 w.heap.size k (m + len) _ rfl (hown.alloc _) ⟨w2.heap.size, 0, none⟩ 1 1 [.int .i64 ((k : Int) * 3 + 1)] rfl rfl (new1 _ _ _) (by simp [Value.oneCell']) (by omega) ?_)
      intro w3 hown3 hgrow3
      have hF' := hM.done hown3 hgrow3
      clear hM hown hown3 hgrow3
      go_wp2
      go_roundw
      case rel => exact ⟨k + 1, by omega, by go_num, rfl, by rw [fill3_succ]; exact hF'⟩
      case measure => simp [intOf]; omega
    · obtain rfl : k = m := by omega
      go_wp2_with fail
      obtain ⟨wo, rfl⟩ : ∃ wo : World, wo = wr := ⟨_, rfl⟩
      go_loopw [7, 34] (fun v i wr => ∃ j : Nat, j ≤ len ∧ i = .int .i64 j ∧ v = .slice (some ⟨w.heap.size, 0, none⟩) (k + j) (k + len) ∧ Fill w wr cb w.heap.size (k + len) (k + j) (fill3 k ++ zs.take j)) (fun _ i _ => len - (intOf i).toNat)
      case atStart => exact ⟨0, Nat.zero_le _, rfl, rfl, by simpa using hF⟩
      case round =>
        clear hF F0
        obtain ⟨j, hj, rfl, rfl, hF⟩ := hrel
        by_cases hlt2 : j < len
        · obtain ⟨b, off, rfl, hbne, hcells⟩ := ha (by omega)
          have hcj : wr.cell? ⟨b, off + j, none⟩ = some (.int .i64 (zs.getD j 0)) := hF.2.2.1.cell (hcells j hlt2) hbne
          clear ha hcells
          generalize hys : fill3 k ++ zs.take j = ys at hF
          have HY : Hid (fill3 k ++ zs.take j = ys) := hys
          clear hys
          go_wp2_with fail
          refine (append_fill _ hF (by omega)).mono ?_
          rintro e w2 ⟨rfl, hM⟩
          clear hF hcj
          have hown := hM.2.1
          go_wp2_with (at_builtin; refine wpList_append_fits _ rfl (.tmp 41) (.tmp 43) 34 rfl w.heap.size 3 i0 1 Yba.underlying34 hi hz1 w.heap.size (k + j) (k + len) _ rfl (hown.alloc _) ⟨w2.heap.size, 0, none⟩ 1 1 [.int .i64 (zs.getD j 0)] rfl rfl (new1 _ _ _) (by simp [Value.oneCell']) (by omega) ?_)
          intro w3 hown3 hgrow3
          have hF' := hM.done hown3 hgrow3
          clear hM hown hown3 hgrow3
          go_wp2
          go_roundw
          case rel => exact ⟨j + 1, by omega, by go_num, rfl, by rw [take_succ_getD zs j (by omega), ← List.append_assoc, HY.out]; exact hF'⟩
          case measure => simp [intOf]; omega
        · obtain rfl : j = len := by omega
          go_wp2
          go_ret
          exact ⟨rfl, hF⟩
end Go.Proofs.Ybulkcjpq
