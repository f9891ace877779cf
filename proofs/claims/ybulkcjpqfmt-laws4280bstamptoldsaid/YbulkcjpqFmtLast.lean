import Derived.Test.YbulkcjpqFmtNames
namespace Go.Proofs.YbulkcjpqFmt
open Go.ChangeShapes Go.WideShapes Go.ChangeAt Go.RowKit
set_option linter.unusedVariables false
set_option linter.unusedSimpArgs false

theorem at32_any (vb o pb gp m i : Nat) (w : World) (hi : i < m) (hm : m ≤ 1024) (h1 : w.cell? ⟨vb, o, none⟩ = some (.slice (some ⟨pb, 0, none⟩) 1 1)) (h2 : w.cell? ⟨pb, 0, none⟩ = some (.slice (some ⟨gp, 0, none⟩) m m)) :
    Calls Ybaf.prog 17 #[.pointer (some ⟨vb, o, none⟩), .int .i64 i] w fun e w' => e = .returned (.pointer (some ⟨gp, i, none⟩)) ∧ w' = w := by
  have hq : (i : Int) / 4096 = 0 := by omega
  have hr : (i : Int) % 4096 = i := by omega
  go_enter Ybaf.func17, Ybaf.ntmps17
  go_wp2
  go_ret
  exact ⟨rfl, rfl⟩

theorem at64_any (vb o pb gp m i : Nat) (w : World) (hi : i < m) (hm : m ≤ 1024) (h1 : w.cell? ⟨vb, o, none⟩ = some (.slice (some ⟨pb, 0, none⟩) 1 1)) (h2 : w.cell? ⟨pb, 0, none⟩ = some (.slice (some ⟨gp, 0, none⟩) m m)) :
    Calls Ybaf.prog 18 #[.pointer (some ⟨vb, o, none⟩), .int .i64 i] w fun e w' => e = .returned (.pointer (some ⟨gp, i, none⟩)) ∧ w' = w := by
  have hq : (i : Int) / 4096 = 0 := by omega
  have hr : (i : Int) % 4096 = i := by omega
  go_enter Ybaf.func18, Ybaf.ntmps18
  go_wp2
  go_ret
  exact ⟨rfl, rfl⟩

theorem cell_any (vb o pb gp m i : Nat) (w : World) (hi : i < m) (hm : m ≤ 1024) (h1 : w.cell? ⟨vb, o, none⟩ = some (.slice (some ⟨pb, 0, none⟩) 1 1)) (h2 : w.cell? ⟨pb, 0, none⟩ = some (.slice (some ⟨gp, 0, none⟩) m m)) :
    Calls Ybaf.prog 11 #[.pointer (some ⟨vb, o, none⟩), .int .i64 i] w fun e w' => e = .returned (.slice (some ⟨gp, i, none⟩) 1 1) ∧ w' = w := by
  have hq : (i : Int) / 4096 = 0 := by omega
  have hr : (i : Int) % 4096 = i := by omega
  go_enter Ybaf.func11, Ybaf.ntmps11
  go_wp2
  go_ret
  exact ⟨rfl, rfl⟩

def cmpI (a b : Int) : Int := if a < b then -1 else if b < a then 1 else 0
theorem cmpI_lt (a b : Int) : cmpI a b < 0 ↔ a < b := by unfold cmpI; split <;> (try split) <;> omega
theorem cmpI_eq (a b : Int) : cmpI a b = 0 ↔ a = b := by unfold cmpI; split <;> (try split) <;> omega

theorem cmp_any (a b : Int) (w : World) : Calls Ybaf.prog 27 #[.int .i64 a, .int .i64 b] w fun e w' => e = .returned (.int .i64 (cmpI a b)) ∧ w' = w := by
  unfold cmpI
  by_cases h1 : a < b
  · rw [if_pos h1]
    go_enter Ybaf.func27, Ybaf.ntmps27
    go_wp2
    go_ret
    exact ⟨rfl, rfl⟩
  · by_cases h2 : b < a
    · rw [if_neg h1, if_pos h2]
      go_enter Ybaf.func27, Ybaf.ntmps27
      go_wp2
      go_ret
      exact ⟨rfl, rfl⟩
    · rw [if_neg h1, if_neg h2]
      go_enter Ybaf.func27, Ybaf.ntmps27
      go_wp2
      go_ret
      exact ⟨rfl, rfl⟩

theorem byPlace_any (a : Int) (nv cv : Value) (k : Int) (w : World) (ha : -2147483648 ≤ a ∧ a ≤ 2147483647) (hn : nv.cells = #[nv]) (hc : cv.cells = #[cv]) :
    Calls Ybaf.prog 21 #[.agg #[.int .i32 a, nv, cv], .int .i64 k] w fun e w' => e = .returned (.int .i64 (cmpI a k)) ∧ w.alloc (.cells #[.int .i32 a, nv, cv] 43) = w' := by
  go_enter Ybaf.func21, Ybaf.ntmps21
  go_wp2_with fail
  refine (cmp_any _ _ _).mono ?_
  rintro e w' ⟨rfl, rfl⟩
  go_wp2
  go_ret
  exact ⟨rfl, rfl⟩


/-- Where k stands among the places A 0 < A 1 < ..: the first place that is not below it, and whether it is there. -/
def Placed (n : Nat) (A : Nat → Int) (k : Int) (e : Ending) : Prop :=
  ∃ pos : Nat, pos ≤ n ∧ (∀ t, t < pos → A t < k) ∧ (∀ t, pos ≤ t → t < n → k ≤ A t) ∧
    ((pos < n ∧ A pos = k ∧ e = .returned (.tuple #[.int .i64 pos, .bool true])) ∨ ((pos < n → A pos ≠ k) ∧ e = .returned (.tuple #[.int .i64 pos, .bool false])))

set_option maxHeartbeats 1000000 in
theorem searchFunc_any (gv o n cap : Nat) (A : Nat → Int) (N1 N2 C1 C2 : Nat → Nat) (NA CA : Nat → Option Addr) (k : Int) (w : World) (hn : n ≤ 1000) (hA : ∀ i j, i < j → j < n → A i < A j) (hA2 : ∀ i, i < n → -2147483648 ≤ A i ∧ A i ≤ 2147483647)
    (hc : ∀ t, t < n → w.cell? ⟨gv, o + t * 3, none⟩ = some (.int .i32 (A t)) ∧ w.cell? ⟨gv, o + t * 3 + 1, none⟩ = some (.slice (NA t) (N1 t) (N2 t)) ∧ w.cell? ⟨gv, o + t * 3 + 2, none⟩ = some (.slice (CA t) (C1 t) (C2 t))) :
    Calls Ybaf.prog 20 #[.slice (some ⟨gv, o, none⟩) n cap, .int .i64 k, .func (.func 21) #[] #[]] w fun e w' => Placed n A k e ∧ Below w.heap.size w w' := by
  go_enter Ybaf.func20, Ybaf.ntmps20
  go_wp2_with fail
  go_loopw [9, 10] (fun vi vj wr => ∃ i j : Nat, i ≤ j ∧ j ≤ n ∧ (∀ t, t < i → A t < k) ∧ (∀ t, j ≤ t → t < n → k ≤ A t) ∧ vi = .int .i64 i ∧ vj = .int .i64 j ∧ Below w.heap.size w wr) (fun vi vj _ => (intOf vj).toNat - (intOf vi).toNat)
  case atStart => exact ⟨0, n, by omega, by omega, fun t ht => by omega, fun t h1 h2 => by omega, rfl, rfl, Below.refl _ _⟩
  case round =>
    obtain ⟨i, j, h1, h3, hlo, hhi, rfl, rfl, hB⟩ := hrel
    by_cases hlt : i < j
    · obtain ⟨c0, c1, c2⟩ := hc ((i + j) / 2) (by omega)
      have hgl : gv < w.heap.size := block_lt_of_cell c0
      have d0 := (hB.cell (p := ⟨gv, o + (i + j) / 2 * 3, none⟩) hgl).trans c0
      have d1 := (hB.cell (p := ⟨gv, o + (i + j) / 2 * 3 + 1, none⟩) hgl).trans c1
      have d2 := (hB.cell (p := ⟨gv, o + (i + j) / 2 * 3 + 2, none⟩) hgl).trans c2
      have hab := hA2 ((i + j) / 2) (by omega)
      have hs := hB.size
      have HLO : Hid (∀ t, t < i → A t < k) := hlo
      have HHI : Hid (∀ t, j ≤ t → t < n → k ≤ A t) := hhi
      have HF : Hid (∀ i j, i < j → j < n → A i < A j) := hA
      clear hlo hhi hA hc c0 c1 c2 hA2
      by_cases hm : A ((i + j) / 2) < k
      · have hd : cmpI (A ((i + j) / 2)) k < 0 := (cmpI_lt _ _).2 hm
        have HM : Hid (A ((i + j) / 2) < k) := hm
        clear hm
        go_wp2_with (go_at_call 21; refine (byPlace_any _ _ _ _ _ hab rfl rfl).mono ?_; rintro e w' ⟨rfl, rfl⟩)
        go_roundw
        case rel => exact ⟨(i + j) / 2 + 1, j, by omega, h3, fun t ht => (by
          by_cases e : t = (i + j) / 2
          · rw [e]; exact HM.out
          · have := HF.out t ((i + j) / 2) (by omega) (by omega); have := HM.out; omega), HHI.out, by go_num, rfl, hB.alloc hs _⟩
        case measure => simp [intOf]; omega
      · have hd : ¬ cmpI (A ((i + j) / 2)) k < 0 := fun e => hm ((cmpI_lt _ _).1 e)
        have HM : Hid (¬ A ((i + j) / 2) < k) := hm
        clear hm
        go_wp2_with (go_at_call 21; refine (byPlace_any _ _ _ _ _ hab rfl rfl).mono ?_; rintro e w' ⟨rfl, rfl⟩)
        go_roundw
        case rel => exact ⟨i, (i + j) / 2, by omega, by omega, HLO.out, fun t h1 h2 => (by
          by_cases e : t = (i + j) / 2
          · rw [e]; have := HM.out; omega
          · have := HF.out ((i + j) / 2) t (by omega) h2; have := HM.out; omega), rfl, by go_num, hB.alloc hs _⟩
        case measure => simp [intOf]; omega
    · obtain rfl : i = j := by omega
      by_cases hik : i < n
      · obtain ⟨c0, c1, c2⟩ := hc i hik
        have hgl : gv < w.heap.size := block_lt_of_cell c0
        have d0 := (hB.cell (p := ⟨gv, o + i * 3, none⟩) hgl).trans c0
        have d1 := (hB.cell (p := ⟨gv, o + i * 3 + 1, none⟩) hgl).trans c1
        have d2 := (hB.cell (p := ⟨gv, o + i * 3 + 2, none⟩) hgl).trans c2
        have hab := hA2 i hik
        have hs := hB.size
        have hd : decide ((i : Int) < (n : Int)) = true := by simp; omega
        have hd' : decide (i < n) = true := by simp; omega
        have HLO : Hid (∀ t, t < i → A t < k) := hlo
        have HHI : Hid (∀ t, i ≤ t → t < n → k ≤ A t) := hhi
        by_cases he : A i = k
        · have hb : (cmpI (A i) k == 0) = true := by simpa using (cmpI_eq _ _).2 he
          have HE : Hid (A i = k) := he
          clear hlo hhi hA hc hA2 he c0 c1 c2
          go_wp2_with (go_at_call 21; refine (byPlace_any _ _ _ _ _ hab rfl rfl).mono ?_; rintro e w' ⟨rfl, rfl⟩)
          go_ret2
          exact ⟨⟨i, h3, HLO.out, HHI.out, .inl ⟨hik, HE.out, rfl⟩⟩, hB.alloc hs _⟩
        · have hb : (cmpI (A i) k == 0) = false := by simpa using fun e => he ((cmpI_eq _ _).1 e)
          have HE : Hid (A i ≠ k) := he
          clear hlo hhi hA hc hA2 he c0 c1 c2
          go_wp2_with (go_at_call 21; refine (byPlace_any _ _ _ _ _ hab rfl rfl).mono ?_; rintro e w' ⟨rfl, rfl⟩)
          go_ret2
          exact ⟨⟨i, h3, HLO.out, HHI.out, .inr ⟨fun _ => HE.out, rfl⟩⟩, hB.alloc hs _⟩
      · have hd : decide ((i : Int) < (n : Int)) = false := by simp; omega
        have hd' : decide (i < n) = false := by simp; omega
        have HLO : Hid (∀ t, t < i → A t < k) := hlo
        have HHI : Hid (∀ t, i ≤ t → t < n → k ≤ A t) := hhi
        clear hlo hhi hA hc hA2
        go_wp2
        go_ret2
        exact ⟨⟨i, h3, HLO.out, HHI.out, .inr ⟨fun h => absurd h hik, rfl⟩⟩, hB⟩

end Go.Proofs.YbulkcjpqFmt
