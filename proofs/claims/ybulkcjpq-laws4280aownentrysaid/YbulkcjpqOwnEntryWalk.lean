import Derived.Test.YbulkcjpqSearch
import Derived.Deep.RegionHeld3
namespace Go.Proofs.Ybulkcjpq.lawS4280AOwnEntry
open Go.ChangeShapes Go.WideShapes Go.ChangeAt Go.RowKit
set_option linter.unusedVariables false
set_option linter.unusedSimpArgs false

theorem walk_long (a0 : Option Addr) (len0 cap0 : Nat) (a1 : Option Addr) (len1 cap1 : Nat) (a2 : Int) (w : World) (h : 1024 < len0) :
    Calls Yba.prog 4 #[.slice a0 len0 cap0, .slice a1 len1 cap1, .int .u64 a2] w fun e w' => e = .returned (.bool true) ∧ Below w.heap.size w w' := by
  go_enter Yba.func4, Yba.ntmps4
  go_wp2
  go_ret
  exact ⟨rfl, Below.refl _ _⟩

theorem walk_empty (a0 : Option Addr) (cap0 : Nat) (a1 : Option Addr) (len1 cap1 : Nat) (a2 : Int) (w : World) :
    Calls Yba.prog 4 #[.slice a0 0 cap0, .slice a1 len1 cap1, .int .u64 a2] w fun e w' => e = .returned (.bool true) ∧ Below w.heap.size w w' := by
  go_enter Yba.func4, Yba.ntmps4
  go_wp2
  go_ret
  exact ⟨rfl, by go_grown⟩

/-- The process's number ahead of round k. -/
def pk (zs : List Int) : Nat → Int
  | 0 => -1
  | k + 1 => pk zs k + (zs.getD k 0 + 1)

theorem pk_bd (zs : List Int) (h : ∀ k, 0 ≤ zs.getD k 0 ∧ zs.getD k 0 ≤ 255) : ∀ k, -1 ≤ pk zs k ∧ pk zs k ≤ 256 * k - 1
  | 0 => by simp [pk]
  | k + 1 => by
    have := pk_bd zs h k
    have := h k
    simp only [pk]
    omega

theorem pk_mono (zs : List Int) (h : ∀ k, 0 ≤ zs.getD k 0 ∧ zs.getD k 0 ≤ 255) (i : Nat) : ∀ d, pk zs i < pk zs (i + (d + 1))
  | 0 => by have := h i; simp only [pk]; omega
  | d + 1 => by
    have := pk_mono zs h i d
    have := h (i + (d + 1))
    show _ < pk zs (i + (d + 1)) + (zs.getD (i + (d + 1)) 0 + 1)
    omega

/-- The count of place i. -/
def ck (cs : List Int) (len1 i : Nat) : Int := if 0 < len1 then cs.getD (i % len1) 0 else (i : Int) + 7

theorem Yba.info21 : (Yba.prog.info? 21).map (fun i => (i.zero, i.size, i.bytes)) = some (some (.int .i32 0), 1, 4) := by kernel_rfl
theorem Yba.info30 : (Yba.prog.info? 30).map (fun i => (i.zero, i.size, i.bytes)) = some (some (.int .u64 0), 1, 8) := by kernel_rfl

def Rows2 (w0 wr : World) (n k : Nat) (zs cs : List Int) (len1 : Nat) : Prop :=
  Below w0.heap.size w0 wr ∧ wr.rowIs w0.heap.size 21 n (fun i => .int .i32 (if i < k then pk zs (i + 1) else 0)) ∧ wr.rowIs (w0.heap.size + 1) 30 n (fun i => .int .u64 (if i < k then ck cs len1 i else 0))

theorem rows2_start (w0 : World) (n : Nat) (zs cs : List Int) (len1 : Nat) : Rows2 w0 ((w0.alloc (.cells (madeCells #[.int .i32 0] n) 21)).alloc (.cells (madeCells #[.int .u64 0] n) 30)) n 0 zs cs len1 := by
  refine ⟨((Below.refl _ w0).alloc (Nat.le_refl _) _).alloc (by simp) _, ?_, ?_⟩
  · refine ((World.rowIs_made w0 (.int .i32 0) n 21).alloc _).congr fun i hi => by simp
  · have h := World.rowIs_made (w0.alloc (.cells (madeCells #[.int .i32 0] n) 21)) (.int .u64 0) n 30
    rw [World.size_alloc] at h
    exact h.congr fun i hi => by simp

theorem rows2_step {w0 wr : World} {n k : Nat} {zs cs : List Int} {len1 : Nat} (h : Rows2 w0 wr n k zs cs len1) :
    Rows2 w0 ((wr.setCell ⟨w0.heap.size, k, none⟩ (.int .i32 (pk zs (k + 1)))).setCell ⟨w0.heap.size + 1, k, none⟩ (.int .u64 (ck cs len1 k))) n (k + 1) zs cs len1 := by
  obtain ⟨h1, h2, h3⟩ := h
  refine ⟨(h1.setCell (p := ⟨w0.heap.size, k, none⟩) (Nat.le_refl _) _).setCell (p := ⟨w0.heap.size + 1, k, none⟩) (by simp) _, ?_, ?_⟩
  · refine ((h2.set k _).setOther (show w0.heap.size ≠ w0.heap.size + 1 by omega) _).congr fun i hi => ?_
    by_cases e : i = k
    · subst e; simp
    · simp only [if_neg e]
      congr 1
      simp only [show (i < k + 1) = (i < k) from by simp; omega]
  · refine ((h3.setOther (show w0.heap.size + 1 ≠ w0.heap.size by omega) _).set k _).congr fun i hi => ?_
    by_cases e : i = k
    · subst e; simp
    · simp only [if_neg e]
      congr 1
      simp only [show (i < k + 1) = (i < k) from by simp; omega]

/-- What the last test's calls leave as it was, beside the cells that its loads read. -/
def Rest (w : World) (g k : Nat) (F : Nat → Int) (W : World) : Prop :=
  (∀ i, i < k → W.cell? ⟨g, i, none⟩ = some (.int .i32 (F i))) ∧ Below w.heap.size w W ∧ w.heap.size ≤ W.heap.size

theorem Rest.cells {w : World} {g k : Nat} {F : Nat → Int} {W : World} (h : Rest w g k F W) : ∀ i, i < k → W.cell? ⟨g, i, none⟩ = some (.int .i32 (F i)) := h.1

theorem keepA {w : World} {g k : Nat} {F : Nat → Int} {W : World} {o : Obj} {a0 a1 a2 a3 a4 a5 a6 : Addr} {v0 v1 v2 v3 v4 v5 v6 : Value}
    (h : W.cell? a0 = some v0 ∧ W.cell? a1 = some v1 ∧ W.cell? a2 = some v2 ∧ W.cell? a3 = some v3 ∧ W.cell? a4 = some v4 ∧ W.cell? a5 = some v5 ∧ W.cell? a6 = some v6 ∧ Rest w g k F W) :
    (W.alloc o).cell? a0 = some v0 ∧ (W.alloc o).cell? a1 = some v1 ∧ (W.alloc o).cell? a2 = some v2 ∧ (W.alloc o).cell? a3 = some v3 ∧ (W.alloc o).cell? a4 = some v4 ∧ (W.alloc o).cell? a5 = some v5 ∧ (W.alloc o).cell? a6 = some v6 ∧ Rest w g k F (W.alloc o) := by
  obtain ⟨h0, h1, h2, h3, h4, h5, h6, r1, r2, r3⟩ := h
  exact ⟨Lib.cell?_alloc_some o h0, Lib.cell?_alloc_some o h1, Lib.cell?_alloc_some o h2, Lib.cell?_alloc_some o h3, Lib.cell?_alloc_some o h4, Lib.cell?_alloc_some o h5, Lib.cell?_alloc_some o h6, fun i hi => Lib.cell?_alloc_some o (r1 i hi), r2.alloc r3 o, by simp; omega⟩

theorem keepD {w : World} {g k : Nat} {F : Nat → Int} {W : World} {a0 a1 a2 a3 a4 a5 a6 : Addr} {v0 v1 v2 v3 v4 v5 v6 : Value}
    (h : W.cell? a0 = some v0 ∧ W.cell? a1 = some v1 ∧ W.cell? a2 = some v2 ∧ W.cell? a3 = some v3 ∧ W.cell? a4 = some v4 ∧ W.cell? a5 = some v5 ∧ W.cell? a6 = some v6 ∧ Rest w g k F W) :
    W.drew.cell? a0 = some v0 ∧ W.drew.cell? a1 = some v1 ∧ W.drew.cell? a2 = some v2 ∧ W.drew.cell? a3 = some v3 ∧ W.drew.cell? a4 = some v4 ∧ W.drew.cell? a5 = some v5 ∧ W.drew.cell? a6 = some v6 ∧ Rest w g k F W.drew :=
  ⟨h.1, h.2.1, h.2.2.1, h.2.2.2.1, h.2.2.2.2.1, h.2.2.2.2.2.1, h.2.2.2.2.2.2.1, h.2.2.2.2.2.2.2.1, h.2.2.2.2.2.2.2.2.1.drew, h.2.2.2.2.2.2.2.2.2⟩

set_option maxHeartbeats 2000000 in
theorem walk_some (b off n cap0 : Nat) (zs : List Int) (a1 : Option Addr) (len1 cap1 : Nat) (cs : List Int) (a2 : Int) (w : World) (h1 : 1 ≤ n) (h2 : n ≤ 1024) (ha : 0 ≤ a2) (ha2 : a2 ≤ 18446744073709551615) (hl1 : len1 ≤ 9223372036854775807)
    (hz : ∀ k, 0 ≤ zs.getD k 0 ∧ zs.getD k 0 ≤ 255) (hcs : ∀ k, 0 ≤ cs.getD k 0 ∧ cs.getD k 0 ≤ 18446744073709551615)
    (hc : ∀ i, i < n → w.cell? ⟨b, off + i, none⟩ = some (.int .u8 (zs.getD i 0)))
    (hc1 : 0 < len1 → ∃ b1 off1, a1 = some ⟨b1, off1, none⟩ ∧ ∀ i, i < len1 → w.cell? ⟨b1, off1 + i, none⟩ = some (.int .u64 (cs.getD i 0))) :
    Calls Yba.prog 4 #[.slice (some ⟨b, off, none⟩) n cap0, .slice a1 len1 cap1, .int .u64 a2] w fun e w' => e = .returned (.bool true) ∧ Below w.heap.size w w' := by
  have hne : ((n : Int) == 0) = false := by simp; omega
  have hm1 := run_make_row' (P := Yba.prog) 22 21 (.int .i32 0) 4 Yba.underlying22 Yba.info21 rfl .i64 .i64 n (by omega) (by omega)
  have hm2 := run_make_row' (P := Yba.prog) 24 30 (.int .u64 0) 8 Yba.underlying24 Yba.info30 rfl .i64 .i64 n (by omega) (by omega)
  go_enter Yba.func4, Yba.ntmps4
  go_wp2_with fail
  go_loopw [11, 12] (fun vp i wr => ∃ k : Nat, k ≤ n ∧ i = .int .i64 k ∧ vp = .int .i32 (pk zs k) ∧ Rows2 w wr n k zs cs len1) (fun _ i _ => n - (intOf i).toNat)
  case atStart => exact ⟨0, Nat.zero_le _, rfl, rfl, rows2_start w n zs cs len1⟩
  case round =>
    clear hm1 hm2
    obtain ⟨k, hk, rfl, rfl, hR⟩ := hrel
    by_cases hlt : k < n
    · have hck : wr.cell? ⟨b, off + k, none⟩ = some (.int .u8 (zs.getD k 0)) := (hR.1.cell (p := ⟨b, off + k, none⟩) (block_lt_of_cell (hc k hlt))).trans (hc k hlt)
      have hp := pk_bd zs hz k
      have hzk := hz k
      have HS := rows2_step hR
      have HP : Hid (pk zs (k + 1) = pk zs k + (zs.getD k 0 + 1)) := rfl
      have g1 := hR.2.1.cell hlt
      have f1 := hR.2.1.frozen k
      have g2 := hR.2.2.cell hlt
      have f2 := hR.2.2.frozen k
      have hbl : b < w.heap.size := block_lt_of_cell (hc k hlt)
      have hB := hR.1
      clear hR
      generalize hpn : pk zs (k + 1) = pn at HS HP
      have HN : Hid (pk zs (k + 1) = pn) := hpn
      clear hpn
      generalize pk zs k = pv at hp HP
      generalize zs.getD k 0 = zk at hzk hck HP
      by_cases hl0 : 0 < len1
      · obtain ⟨b1, off1, rfl, hcc⟩ := hc1 hl0
        have hml : k % len1 < len1 := Nat.mod_lt _ hl0
        have hck1 : wr.cell? ⟨b1, off1 + k % len1, none⟩ = some (.int .u64 (cs.getD (k % len1) 0)) := (hB.cell (p := ⟨b1, off1 + k % len1, none⟩) (block_lt_of_cell (hcc _ hml))).trans (hcc _ hml)
        have hb1 : b1 < w.heap.size := block_lt_of_cell (hcc _ hml)
        have hck2 : ck cs len1 k = cs.getD (k % len1) 0 := if_pos hl0
        rw [hck2] at HS
        have hmi : (k : Int) % (len1 : Int) < (len1 : Int) := Int.emod_lt_of_pos _ (by omega)
        generalize cs.getD (k % len1) 0 = ce at HS hck1
        clear hc hc1 hcc hck2 hB
        go_wp2
        go_roundw
        case rel => exact ⟨k + 1, by omega, by go_num, by rw [HN.out, HP.out], by rw [HP.out] at HS; exact HS⟩
        case measure => simp [intOf]; omega
      · have hl0' : len1 = 0 := by omega
        subst hl0'
        have hck2 : ck cs 0 k = (k : Int) + 7 := if_neg hl0
        rw [hck2] at HS
        clear hc hc1 hck2 hB
        go_wp2
        go_roundw
        case rel => exact ⟨k + 1, by omega, by go_num, by rw [HN.out, HP.out], by rw [HP.out] at HS; exact HS⟩
        case measure => simp [intOf]; omega
    · obtain rfl : k = n := by omega
      obtain ⟨hB, hr1, hr2⟩ := hR
      obtain ⟨k0, hk0, hk1⟩ : ∃ k0 : Nat, a2 % (k : Int) = (k0 : Int) ∧ k0 < k :=
        ⟨(a2 % (k : Int)).toNat, by have := Int.emod_nonneg a2 (show (k : Int) ≠ 0 by omega); omega, by have := Int.emod_lt_of_pos a2 (show (0:Int) < (k : Int) by omega); omega⟩
      have hp : ∀ i, i < k → wr.cell? ⟨w.heap.size, i, none⟩ = some (.int .i32 (pk zs (i + 1))) := fun i hi => by rw [hr1.cell hi, if_pos hi]
      have hq : wr.cell? ⟨w.heap.size + 1, k0, none⟩ = some (.int .u64 (ck cs len1 k0)) := by rw [hr2.cell hk1, if_pos hk1]
      have hF : ∀ i j, i < j → j < k → pk zs (i + 1) < pk zs (j + 1) := fun i j hij _ => by
        have := pk_mono zs hz (i + 1) (j - i - 1)
        rwa [show i + 1 + (j - i - 1 + 1) = j + 1 by omega] at this
      have hws : w.heap.size + 1 < wr.heap.size := hr2.lt
      clear hr1 hr2 hc hc1 hcs
      generalize ck cs len1 k0 = cv at hq
      go_wp2_with fail
      refine (own_at 0 _ _ k k0 (pk zs (k0 + 1)) _ hk1 h2 (Lib.cell?_alloc_some _ (hp k0 hk1))).mono ?_
      rintro e w1 ⟨rfl, rfl⟩
      have HK : Hid (a2 % (k : Int) = (k0 : Int)) := hk0
      clear hk0 hne hk hlt hz
      have hB1 : Below w.heap.size w ((wr.alloc (.cells #[.int .i32 0, .slice (some ⟨w.heap.size, 0, none⟩) k k, .int .i64 k0, .slice (some ⟨w.heap.size + 1, 0, none⟩) k k, .slice none 0 0] 26)).alloc (.cells (clk 0 w.heap.size (w.heap.size + 1) k k0) 26)) := (hB.alloc (by omega) _).alloc (by simp; omega) _
      have hs1 : w.heap.size ≤ ((wr.alloc (.cells #[.int .i32 0, .slice (some ⟨w.heap.size, 0, none⟩) k k, .int .i64 k0, .slice (some ⟨w.heap.size + 1, 0, none⟩) k k, .slice none 0 0] 26)).alloc (.cells (clk 0 w.heap.size (w.heap.size + 1) k k0) 26)).heap.size := by simp; omega
      have hp1 : ∀ i, i < k → ((wr.alloc (.cells #[.int .i32 0, .slice (some ⟨w.heap.size, 0, none⟩) k k, .int .i64 k0, .slice (some ⟨w.heap.size + 1, 0, none⟩) k k, .slice none 0 0] 26)).alloc (.cells (clk 0 w.heap.size (w.heap.size + 1) k k0) 26)).cell? ⟨w.heap.size, i, none⟩ = some (.int .i32 (pk zs (i + 1))) := fun i hi => Lib.cell?_alloc_some _ (Lib.cell?_alloc_some _ (hp i hi))
      have hq1 : ((wr.alloc (.cells #[.int .i32 0, .slice (some ⟨w.heap.size, 0, none⟩) k k, .int .i64 k0, .slice (some ⟨w.heap.size + 1, 0, none⟩) k k, .slice none 0 0] 26)).alloc (.cells (clk 0 w.heap.size (w.heap.size + 1) k k0) 26)).cell? ⟨w.heap.size + 1, k0, none⟩ = some (.int .u64 cv) := Lib.cell?_alloc_some _ (Lib.cell?_alloc_some _ hq)
      have hcl : ∀ i v, (clk 0 w.heap.size (w.heap.size + 1) k k0)[i]? = some v → ((wr.alloc (.cells #[.int .i32 0, .slice (some ⟨w.heap.size, 0, none⟩) k k, .int .i64 k0, .slice (some ⟨w.heap.size + 1, 0, none⟩) k k, .slice none 0 0] 26)).alloc (.cells (clk 0 w.heap.size (w.heap.size + 1) k k0) 26)).cell? ⟨wr.heap.size, i, none⟩ = some v := fun i v hv => Lib.cell?_alloc_some _ (by rw [World.cell?_alloc_new]; exact hv)
      generalize ((wr.alloc (.cells #[.int .i32 0, .slice (some ⟨w.heap.size, 0, none⟩) k k, .int .i64 k0, .slice (some ⟨w.heap.size + 1, 0, none⟩) k k, .slice none 0 0] 26)).alloc (.cells (clk 0 w.heap.size (w.heap.size + 1) k k0) 26)) = W at hB1 hs1 hp1 hq1 hcl ⊢
      generalize wr.heap.size = cb at hcl ⊢
      have hS : W.cell? ⟨w.heap.size, k0, none⟩ = some (.int .i32 (pk zs (k0 + 1))) ∧ W.cell? ⟨cb, 0, none⟩ = some (.int .i32 0) ∧ W.cell? ⟨cb, 1, none⟩ = some (.slice (some ⟨w.heap.size, 0, none⟩) k k) ∧ W.cell? ⟨cb, 2, none⟩ = some (.int .i64 k0) ∧ W.cell? ⟨cb, 3, none⟩ = some (.slice (some ⟨w.heap.size + 1, 0, none⟩) k k) ∧ W.cell? ⟨cb, 4, none⟩ = some (.slice none 0 0) ∧ W.cell? ⟨w.heap.size + 1, k0, none⟩ = some (.int .u64 cv) ∧ Rest w w.heap.size k (fun i => pk zs (i + 1)) W :=
        ⟨hp1 k0 hk1, hcl 0 _ rfl, hcl 1 _ rfl, hcl 2 _ rfl, hcl 3 _ rfl, hcl 4 _ rfl, hq1, hp1, hB1, hs1⟩
      have ki : (k0 : Int) < (k : Int) := by omega
      have kj : (0 : Int) ≤ (k0 : Int) := by omega
      clear hcl hp hq hB hws hp1 hq1 hB1 hs1
      have HF : Hid (∀ i j, i < j → j < k → pk zs (i + 1) < pk zs (j + 1)) := hF
      clear hF
      go_wp2_with fail
      go_region_held3 (fun w' => w'.cell? ⟨w.heap.size, k0, none⟩ = some (.int .i32 (pk zs (k0 + 1))) ∧ w'.cell? ⟨cb, 0, none⟩ = some (.int .i32 0) ∧ w'.cell? ⟨cb, 1, none⟩ = some (.slice (some ⟨w.heap.size, 0, none⟩) k k) ∧ w'.cell? ⟨cb, 2, none⟩ = some (.int .i64 k0) ∧ w'.cell? ⟨cb, 3, none⟩ = some (.slice (some ⟨w.heap.size + 1, 0, none⟩) k k) ∧ w'.cell? ⟨cb, 4, none⟩ = some (.slice none 0 0) ∧ w'.cell? ⟨w.heap.size + 1, k0, none⟩ = some (.int .u64 cv) ∧ Rest w w.heap.size k (fun i => pk zs (i + 1)) w')
        (first | exact keepD hS | exact keepD (keepA hS) | exact keepD (keepA (keepA hS)) | exact keepD (keepA (keepA (keepA hS))))
        (first | (go_at_call 8; refine (entry_at 0 _ _ k k0 (fun i => pk zs (i + 1)) cv _ hk1 h2 HF.out ?_ ?_).mono ?_; (go_split_ands; exact Rest.cells (by assumption)); (go_split_ands; assumption); rintro e w' ⟨rfl, rfl⟩) | (go_at_call 9; refine (count_at 0 _ _ k k0 cv _ hk1 h2 ?_).mono ?_; (go_split_ands; assumption); rintro e w' ⟨rfl, rfl⟩))
      have hB4 := (keepD (keepA (o := .cells (clk 0 w.heap.size (w.heap.size + 1) k k0) 26) (keepA (o := .cells (clk 0 w.heap.size (w.heap.size + 1) k k0) 26) (keepA (o := .cells (clk 0 w.heap.size (w.heap.size + 1) k k0) 26) hS)))).2.2.2.2.2.2.2.2.1
      go_wp2
      go_ret
      exact ⟨rfl, hB4⟩
end Go.Proofs.Ybulkcjpq.lawS4280AOwnEntry
