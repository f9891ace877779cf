import Derived.Test.YbulkcjqsRows
import Derived.WalkKit
import Derived.ProofKit
import Derived.OpenShut
import Derived.WalkLawsBesides
import Derived.WalkSpells
import Derived.Handy
import Derived.Outline
import Derived.BigRegion
import Derived.RegionTactic
import Derived.Deep.OwnRows
import Derived.Deep.QuietTactic
import Derived.BigQuiet
import Derived.Deep.RegionHeld3
import Derived.Deep.DeepCutAuto
namespace Go.Proofs.Ybulkcjqs.lawS4282ACount
open Go.ChangeShapes Go.WideShapes Go.ChangeAt Go.RowKit
set_option linter.unusedVariables false
set_option linter.unusedSimpArgs false

/-- How many of the first k members neither halted nor crashed. -/
def cnt (h c : Nat → Int) : Nat → Nat
  | 0 => 0
  | k + 1 => if h k = 0 ∧ c k = 0 then cnt h c k + 1 else cnt h c k
theorem cnt_le (h c : Nat → Int) : ∀ k, cnt h c k ≤ k
  | 0 => Nat.le_refl _
  | k + 1 => by have := cnt_le h c k; simp only [cnt]; split <;> omega

set_option maxHeartbeats 1000000 in
theorem running_any (ob gm n : Nat) (va : Option Addr) (cap : Nat) (D : Nat → ByteArray) (A h c : Nat → Int) (w : World) (hn : n ≤ 1024)
    (ho : w.cell? ⟨ob, 5, none⟩ = some (.slice va n cap)) (hva : 0 < n → va = some ⟨gm, 0, none⟩)
    (hh : ∀ i, i < n → w.cell? ⟨gm, i * 4 + 2, none⟩ = some (.int .i64 (h i))) (hc : ∀ i, i < n → w.cell? ⟨gm, i * 4 + 3, none⟩ = some (.int .i64 (c i))) :
    Calls Yba.prog 6 #[.pointer (some ⟨ob, 0, none⟩)] w fun e w' => e = .returned (.int .i64 (cnt h c n)) ∧ w' = w := by
  go_enter Yba.func6, Yba.ntmps6
  go_wp2_with fail
  go_loop [3, 11] (fun vk i => ∃ k : Nat, k ≤ n ∧ i = .int .i64 k ∧ vk = .int .i64 (cnt h c k)) (fun _ i => n - (intOf i).toNat)
  case atStart => exact ⟨0, Nat.zero_le _, rfl, rfl⟩
  case round =>
    obtain ⟨k, hk, rfl, rfl⟩ := hrel
    have hcl := cnt_le h c k
    by_cases hlt : k < n
    · obtain rfl := hva (by omega)
      have h1 := hh k hlt
      have h2 := hc k hlt
      have HC : Hid (cnt h c (k + 1) = if h k = 0 ∧ c k = 0 then cnt h c k + 1 else cnt h c k) := rfl
      clear hh hc
      generalize cnt h c k = c0 at HC hcl
      generalize h k = hk' at HC h1
      generalize c k = ck' at HC h2
      by_cases e1 : hk' = 0
      · by_cases e2 : ck' = 0
        · have H1 : Hid (hk' = 0 ∧ ck' = 0) := ⟨e1, e2⟩
          have b1 : (hk' == 0) = true := by simp [e1]
          have b2 : (ck' == 0) = true := by simp [e2]
          clear e1 e2
          go_wp2
          go_round
          case rel => exact ⟨k + 1, by omega, by go_num, by rw [HC.out, if_pos H1.out]; go_num⟩
          case measure => simp [intOf]; omega
        · have H1 : Hid (¬ (hk' = 0 ∧ ck' = 0)) := fun e => e2 e.2
          have b1 : (hk' == 0) = true := by simp [e1]
          have b2 : (ck' == 0) = false := by simp [e2]
          clear e1 e2
          go_wp2
          go_round
          case rel => exact ⟨k + 1, by omega, by go_num, by rw [HC.out, if_neg H1.out]⟩
          case measure => simp [intOf]; omega
      · have H1 : Hid (¬ (hk' = 0 ∧ ck' = 0)) := fun e => e1 e.1
        have b1 : (hk' == 0) = false := by simp [e1]
        clear e1
        go_wp2
        go_round
        case rel => exact ⟨k + 1, by omega, by go_num, by rw [HC.out, if_neg H1.out]⟩
        case measure => simp [intOf]; omega
    · obtain rfl : k = n := by omega
      go_wp2
      go_ret
      exact ⟨rfl, rfl⟩

theorem Yba.info26 : (Yba.prog.info? 26).map (fun i => (i.zero, i.size, i.bytes)) = some (some (.agg #[.string ⟨#[]⟩, .int .i64 0, .int .i64 0, .int .i64 0]), 4, 40) := by kernel_rfl

/-- The cells of n zero members. -/
def zs (n : Nat) : Array Value := madeCells #[.string ⟨#[]⟩, .int .i64 0, .int .i64 0, .int .i64 0] (n * 4)

theorem make26 (n : Nat) (hn : n ≤ 1024) (w : World) : (Instr.makeSlice 23 (.int .i64 (n : Int)) (.int .i64 (n : Int))).run Yba.prog w = .ok (.slice (some ⟨w.heap.size, 0, none⟩) n n) (w.alloc (.cells (zs n) 26)) := by
  obtain ⟨i0, hi, hz0, hz1, hz2⟩ := info_parts Yba.info26
  have h := run_make (P := Yba.prog) w 23 26 i0 _ Yba.underlying23 hi hz0 .i64 .i64 (n : Int) (n : Int) (by omega) (Int.le_refl _) (by rw [hz2]; omega) (by omega)
  rw [hz1] at h
  exact h

def fld (D : Nat → ByteArray) (A h c : Nat → Int) (i : Nat) : Nat → Value
  | 0 => .string (D i)
  | 1 => .int .i64 (A i)
  | 2 => .int .i64 (h i)
  | _ => .int .i64 (c i)
def zf : Nat → Value
  | 0 => .string ⟨#[]⟩
  | _ => .int .i64 0

/-- Behind k rounds: the first k members are those of the argument, the rest are zero. -/
def rowF (D : Nat → ByteArray) (A h c : Nat → Int) (k x : Nat) : Value := if x / 4 < k then fld D A h c (x / 4) (x % 4) else zf (x % 4)

theorem row_start (D : Nat → ByteArray) (A h c : Nat → Int) (n : Nat) (w : World) : (w.alloc (.cells (zs n) 26)).rowIs w.heap.size 26 (n * 4) (rowF D A h c 0) := by
  have hs : (zs n).size = n * 4 := size_madeCells _ _
  have := World.rowIs_alloc w (zs n) 26 (rowF D A h c 0) (fun i hi => by
    rw [hs] at hi
    have hm : i % 4 < 4 := Nat.mod_lt _ (by omega)
    simp only [zs, madeCells, rowF, Nat.not_lt_zero, if_false]
    simp only [Array.getElem?_map, Array.getElem?_range, hi, if_true, Option.map_some]
    congr 1
    show (#[Value.string ⟨#[]⟩, .int .i64 0, .int .i64 0, .int .i64 0] : Array Value)[i % 4]! = zf (i % 4)
    generalize i % 4 = j at hm
    match j, hm with
    | 0, _ => rfl
    | 1, _ => rfl
    | 2, _ => rfl
    | 3, _ => rfl)
  rw [hs] at this
  exact this

theorem row_step {D : Nat → ByteArray} {A h c : Nat → Int} {w : World} {g n k : Nat} (hr : w.rowIs g 26 (n * 4) (rowF D A h c k)) :
    ((((w.setCell ⟨g, k * 4, none⟩ (.string (D k))).setCell ⟨g, k * 4 + 1, none⟩ (.int .i64 (A k))).setCell ⟨g, k * 4 + 2, none⟩ (.int .i64 (h k))).setCell ⟨g, k * 4 + 3, none⟩ (.int .i64 (c k))).rowIs g 26 (n * 4) (rowF D A h c (k + 1)) := by
  refine ((((hr.set (k * 4) _).set (k * 4 + 1) _).set (k * 4 + 2) _).set (k * 4 + 3) _).congr fun x hx => ?_
  simp only [rowF]
  by_cases e3 : x = k * 4 + 3
  · subst e3; simp only [if_true]; rw [if_pos (by omega), show (k * 4 + 3) / 4 = k by omega, show (k * 4 + 3) % 4 = 3 by omega]; rfl
  by_cases e2 : x = k * 4 + 2
  · subst e2; rw [if_neg (by omega), if_pos rfl, if_pos (by omega), show (k * 4 + 2) / 4 = k by omega, show (k * 4 + 2) % 4 = 2 by omega]; rfl
  by_cases e1 : x = k * 4 + 1
  · subst e1; rw [if_neg (by omega), if_neg (by omega), if_pos rfl, if_pos (by omega), show (k * 4 + 1) / 4 = k by omega, show (k * 4 + 1) % 4 = 1 by omega]; rfl
  by_cases e0 : x = k * 4
  · subst e0; rw [if_neg (by omega), if_neg (by omega), if_neg (by omega), if_pos rfl, if_pos (by omega), show (k * 4) / 4 = k by omega, show (k * 4) % 4 = 0 by omega]; rfl
  · rw [if_neg e3, if_neg e2, if_neg e1, if_neg e0]
    by_cases hk : x / 4 < k
    · rw [if_pos hk, if_pos (by omega)]
    · rw [if_neg hk, if_neg (by omega)]

set_option maxHeartbeats 2000000 in
set_option maxRecDepth 20000 in
theorem walk_some (ad : Addr) (n cap0 : Nat) (D : Nat → ByteArray) (A h c : Nat → Int) (steps : Int) (capped : Bool) (w : World) (hn : n ≤ 1024)
    (ha : 0 < n → ∃ b off, ad = ⟨b, off, none⟩ ∧ ∀ i, i < n → w.cell? ⟨b, off + i * 4, none⟩ = some (.string (D i)) ∧ w.cell? ⟨b, off + i * 4 + 1, none⟩ = some (.int .i64 (A i)) ∧ w.cell? ⟨b, off + i * 4 + 2, none⟩ = some (.int .i64 (h i)) ∧ w.cell? ⟨b, off + i * 4 + 3, none⟩ = some (.int .i64 (c i))) :
    Calls Yba.prog 3 #[.slice (some ad) n cap0, .int .i64 steps, .bool capped] w fun e w' => e = .returned (.bool true) ∧ Below w.heap.size w w' := by
  have hnn := fun w => run_neq_slice_nil_any (P := Yba.prog) w 22 25 (some ad) n cap0 0 0 Yba.underlying22
  have hmk := make26 n hn
  go_enter Yba.func3, Yba.ntmps3
  go_wp2_with fail
  go_loopw [8] (fun i wr => ∃ k : Nat, k ≤ n ∧ i = .int .i64 k ∧ Below w.heap.size w wr ∧ wr.rowIs w.heap.size 26 (n * 4) (rowF D A h c k)) (fun i _ => n - (intOf i).toNat)
  case atStart => exact ⟨0, Nat.zero_le _, rfl, (Below.refl _ w).alloc (Nat.le_refl _) _, row_start D A h c n w⟩
  case round =>
    clear hnn hmk
    obtain ⟨k, hk, rfl, hB, hr⟩ := hrel
    by_cases hlt : k < n
    · obtain ⟨b, off, rfl, hcell⟩ := ha (by omega)
      obtain ⟨g0, g1, g2, g3⟩ := hcell k hlt
      have hbl : b < w.heap.size := block_lt_of_cell g0
      have k0 : wr.cell? ⟨b, off + k * 4, none⟩ = some (.string (D k)) := (hB.cell (p := ⟨b, off + k * 4, none⟩) hbl).trans g0
      have k1 : wr.cell? ⟨b, off + k * 4 + 1, none⟩ = some (.int .i64 (A k)) := (hB.cell (p := ⟨b, off + k * 4 + 1, none⟩) hbl).trans g1
      have k2 : wr.cell? ⟨b, off + k * 4 + 2, none⟩ = some (.int .i64 (h k)) := (hB.cell (p := ⟨b, off + k * 4 + 2, none⟩) hbl).trans g2
      have k3 : wr.cell? ⟨b, off + k * 4 + 3, none⟩ = some (.int .i64 (c k)) := (hB.cell (p := ⟨b, off + k * 4 + 3, none⟩) hbl).trans g3
      have f0 := hr.frozen (k * 4)
      have f1 := hr.frozen (k * 4 + 1)
      have f2 := hr.frozen (k * 4 + 2)
      have f3 := hr.frozen (k * 4 + 3)
      have m0 := hr.cell (i := k * 4) (by omega)
      have m1 := hr.cell (i := k * 4 + 1) (by omega)
      have m2 := hr.cell (i := k * 4 + 2) (by omega)
      have m3 := hr.cell (i := k * 4 + 3) (by omega)
      have ki : (0 : Int) ≤ (k : Int) := by omega
      have kn : (k : Int) < (n : Int) := by omega
      clear ha hcell g0 g1 g2 g3
      go_wp2_with fail
      go_region
      go_wp2
      go_roundw
      case rel => exact ⟨k + 1, by omega, by go_num, ((((hB.setCell (p := ⟨w.heap.size, k * 4, none⟩) (Nat.le_refl _) _).setCell (p := ⟨w.heap.size, k * 4 + 1, none⟩) (Nat.le_refl _) _).setCell (p := ⟨w.heap.size, k * 4 + 2, none⟩) (Nat.le_refl _) _).setCell (p := ⟨w.heap.size, k * 4 + 3, none⟩) (Nat.le_refl _) _).drew, (row_step hr).drew⟩
      case measure => simp [intOf]; omega
    · obtain rfl : k = n := by omega
      have hws : w.heap.size < wr.heap.size := hr.lt
      have rc : ∀ i j, i < k → j < 4 → wr.cell? ⟨w.heap.size, i * 4 + j, none⟩ = some (fld D A h c i j) := fun i j hi hj => by
        rw [hr.cell (by omega)]
        simp only [rowF]
        rw [if_pos (by omega), show (i * 4 + j) / 4 = i by omega, show (i * 4 + j) % 4 = j by omega]
      clear hr
      go_wp2_with fail
      refine (running_any wr.heap.size w.heap.size k (some ⟨w.heap.size, 0, none⟩) k D A h c _ hn ?_ (fun _ => rfl) ?_ ?_).mono ?_
      · rw [World.cell?_alloc_new]; rfl
      · exact fun i hi => Lib.cell?_alloc_some _ (rc i 2 hi (by omega))
      · exact fun i hi => Lib.cell?_alloc_some _ (rc i 3 hi (by omega))
      rintro e w1 ⟨rfl, hW1⟩
      have hBw : Below w.heap.size w w1 := by rw [hW1]; exact hB.alloc (by omega) _
      have o5 : w1.cell? ⟨wr.heap.size, 5, none⟩ = some (.slice (some ⟨w.heap.size, 0, none⟩) k k) := by rw [hW1, World.cell?_alloc_new]; rfl
      have o6 : w1.cell? ⟨wr.heap.size, 6, none⟩ = some (.int .i64 steps) := by rw [hW1, World.cell?_alloc_new]; rfl
      have o7 : w1.cell? ⟨wr.heap.size, 7, none⟩ = some (.bool capped) := by rw [hW1, World.cell?_alloc_new]; rfl
      have rc1 : ∀ i j, i < k → j < 4 → w1.cell? ⟨w.heap.size, i * 4 + j, none⟩ = some (fld D A h c i j) := fun i j hi hj => by rw [hW1]; exact Lib.cell?_alloc_some _ (rc i j hi hj)
      have hs1 : wr.heap.size < w1.heap.size := by rw [hW1]; simp
      clear hW1 rc hB
      generalize wr.heap.size = ob at o5 o6 o7 hs1 hws ⊢
      go_wp2_with fail
      go_loop [11, 12] (fun vw i => ∃ j : Nat, j ≤ k ∧ i = .int .i64 j ∧ vw = .int .i64 (cnt h c j)) (fun _ i => k - (intOf i).toNat)
      case atStart => exact ⟨0, Nat.zero_le _, rfl, rfl⟩
      case round =>
        obtain ⟨j, hj, rfl, rfl⟩ := hrel
        have hcl := cnt_le h c j
        by_cases hlt2 : j < k
        · obtain ⟨b, off, rfl, hcell⟩ := ha (by omega)
          obtain ⟨_, _, g2, g3⟩ := hcell j hlt2
          have hbl : b < w.heap.size := block_lt_of_cell g2
          have h1 : w1.cell? ⟨b, off + j * 4 + 2, none⟩ = some (.int .i64 (h j)) := (hBw.cell (p := ⟨b, off + j * 4 + 2, none⟩) hbl).trans g2
          have h2 : w1.cell? ⟨b, off + j * 4 + 3, none⟩ = some (.int .i64 (c j)) := (hBw.cell (p := ⟨b, off + j * 4 + 3, none⟩) hbl).trans g3
          have HC : Hid (cnt h c (j + 1) = if h j = 0 ∧ c j = 0 then cnt h c j + 1 else cnt h c j) := rfl
          clear ha hcell g2 g3 rc1
          generalize cnt h c j = c0 at HC hcl
          generalize h j = hk' at HC h1
          generalize c j = ck' at HC h2
          by_cases e1 : hk' = 0
          · by_cases e2 : ck' = 0
            · have H1 : Hid (hk' = 0 ∧ ck' = 0) := ⟨e1, e2⟩
              have b1 : (hk' != 0) = false := by simp [e1]
              have b2 : (ck' != 0) = false := by simp [e2]
              clear e1 e2
              go_wp2
              go_round
              case rel => exact ⟨j + 1, by omega, by go_num, by rw [HC.out, if_pos H1.out]; go_num⟩
              case measure => simp [intOf]; omega
            · have H1 : Hid (¬ (hk' = 0 ∧ ck' = 0)) := fun e => e2 e.2
              have b1 : (hk' != 0) = false := by simp [e1]
              have b2 : (ck' != 0) = true := by simp [e2]
              clear e1 e2
              go_wp2
              go_round
              case rel => exact ⟨j + 1, by omega, by go_num, by rw [HC.out, if_neg H1.out]⟩
              case measure => simp [intOf]; omega
          · have H1 : Hid (¬ (hk' = 0 ∧ ck' = 0)) := fun e => e1 e.1
            have b1 : (hk' != 0) = true := by simp [e1]
            clear e1
            go_wp2
            go_round
            case rel => exact ⟨j + 1, by omega, by go_num, by rw [HC.out, if_neg H1.out]⟩
            case measure => simp [intOf]; omega
        · obtain rfl : j = k := by omega
          go_wp2_with fail
          obtain ⟨wo, rfl⟩ : ∃ wo : World, wo = wr := ⟨_, rfl⟩
          go_loopw [13] (fun i wr => ∃ t : Nat, t ≤ j ∧ i = .int .i64 t ∧ Below w1.heap.size w1 wr) (fun i _ => j - (intOf i).toNat)
          case atStart => exact ⟨0, Nat.zero_le _, rfl, Below.refl _ _⟩
          case round =>
            obtain ⟨t, ht, rfl, hBx⟩ := hrel
            by_cases hlt3 : t < j
            · obtain ⟨b, off, rfl, hcell⟩ := ha (by omega)
              obtain ⟨g0, g1, g2, g3⟩ := hcell t hlt3
              have hbl : b < w.heap.size := block_lt_of_cell g0
              have hbx : b < wr.heap.size := by have := hBx.size; omega
              have hB2 : Below w.heap.size w wr := hBw.trans (hBx.mono (by omega))
              have k0 : ∀ o, (wr.alloc o).cell? ⟨b, off + t * 4, none⟩ = some (.string (D t)) := fun o => Lib.cell?_alloc_some o ((hB2.cell (p := ⟨b, off + t * 4, none⟩) hbl).trans g0)
              have k1 : ∀ o, (wr.alloc o).cell? ⟨b, off + t * 4 + 1, none⟩ = some (.int .i64 (A t)) := fun o => Lib.cell?_alloc_some o ((hB2.cell (p := ⟨b, off + t * 4 + 1, none⟩) hbl).trans g1)
              have k2 : ∀ o, (wr.alloc o).cell? ⟨b, off + t * 4 + 2, none⟩ = some (.int .i64 (h t)) := fun o => Lib.cell?_alloc_some o ((hB2.cell (p := ⟨b, off + t * 4 + 2, none⟩) hbl).trans g2)
              have k3 : ∀ o, (wr.alloc o).cell? ⟨b, off + t * 4 + 3, none⟩ = some (.int .i64 (c t)) := fun o => Lib.cell?_alloc_some o ((hB2.cell (p := ⟨b, off + t * 4 + 3, none⟩) hbl).trans g3)
              have p5 := (hBx.cell (p := ⟨ob, 5, none⟩) hs1).trans o5
              have q0 : wr.cell? ⟨w.heap.size, t * 4, none⟩ = some (.string (D t)) := (hBx.cell (p := ⟨w.heap.size, t * 4, none⟩) (by show w.heap.size < _; omega)).trans (rc1 t 0 hlt3 (by omega))
              have q1 : wr.cell? ⟨w.heap.size, t * 4 + 1, none⟩ = some (.int .i64 (A t)) := (hBx.cell (p := ⟨w.heap.size, t * 4 + 1, none⟩) (by show w.heap.size < _; omega)).trans (rc1 t 1 hlt3 (by omega))
              have q2 : wr.cell? ⟨w.heap.size, t * 4 + 2, none⟩ = some (.int .i64 (h t)) := (hBx.cell (p := ⟨w.heap.size, t * 4 + 2, none⟩) (by show w.heap.size < _; omega)).trans (rc1 t 2 hlt3 (by omega))
              have q3 : wr.cell? ⟨w.heap.size, t * 4 + 3, none⟩ = some (.int .i64 (c t)) := (hBx.cell (p := ⟨w.heap.size, t * 4 + 3, none⟩) (by show w.heap.size < _; omega)).trans (rc1 t 3 hlt3 (by omega))
              have ki : (0 : Int) ≤ (t : Int) := by omega
              have kn : (t : Int) < (j : Int) := by omega
              have hsz := hBx.size
              clear ha hcell g0 g1 g2 g3 rc1 hB2 o5 o6 o7
              go_wp2_with fail
              go_quiet (fail)
              go_wp2
              go_roundw
              case rel => exact ⟨t + 1, by omega, by go_num, below_drewN (hBx.alloc hsz _) nq⟩
              case measure => simp [intOf]; omega
            · go_wp2
              go_ret
              exact ⟨rfl, hBw.trans (hBx.mono (by omega))⟩

theorem walk_nil (steps : Int) (capped : Bool) (w : World) :
    Calls Yba.prog 3 #[.slice none 0 0, .int .i64 steps, .bool capped] w fun e w' => e = .returned (.bool true) ∧ Below w.heap.size w w' := by
  have hnn := fun w => run_neq_slice_nil_any (P := Yba.prog) w 22 25 none 0 0 0 0 Yba.underlying22
  go_enter Yba.func3, Yba.ntmps3
  go_wp2_with fail
  refine (running_any w.heap.size 0 0 none 0 (fun _ => ⟨#[]⟩) (fun _ => 0) (fun _ => 0) (fun _ => 0) _ (by omega) ?_ (fun h => by omega) (fun i hi => by omega) (fun i hi => by omega)).mono ?_
  · rw [World.cell?_alloc_new]; rfl
  rintro e w1 ⟨rfl, rfl⟩
  go_wp2_with fail
  go_rounds 1
  go_rounds 1
  go_ret
  exact ⟨rfl, by go_grown⟩

theorem walk_long (a0 : Option Addr) (n cap0 : Nat) (steps : Int) (capped : Bool) (w : World) (hn : 1024 < n) :
    Calls Yba.prog 3 #[.slice a0 n cap0, .int .i64 steps, .bool capped] w fun e w' => e = .returned (.bool true) ∧ Below w.heap.size w w' := by
  go_enter Yba.func3, Yba.ntmps3
  go_wp2
  go_ret
  exact ⟨rfl, Below.refl _ _⟩

end Go.Proofs.Ybulkcjqs.lawS4282ACount
