import Derived.Test.YbulkcjpqFmtRows
import Derived.WalkKit
import Derived.ProofKit
import Derived.OpenShut
import Derived.WalkLawsBesides
import Derived.WalkSpells
import Derived.Handy
import Derived.Outline
import Derived.BigRegion
import Derived.RegionTactic
import Derived.Deep.OwnRows
import Derived.Deep.QuietTactic
import Derived.BigQuiet
import Derived.Deep.RegionHeld3
import Derived.Deep.DeepCutAuto
namespace Go.Proofs.YbulkcjpqFmt
open Go.ChangeShapes Go.WideShapes Go.ChangeAt Go.RowKit
set_option linter.unusedVariables false
set_option linter.unusedSimpArgs false

/-- The name of process q: a, b, c. -/
def nameB (q : Nat) : ByteArray := if q = 0 then ⟨#[97]⟩ else if q = 1 then ⟨#[98]⟩ else ⟨#[99]⟩

theorem three {q : Nat} (h : q < 3) : q = 0 ∨ q = 1 ∨ q = 2 := by omega

theorem name_less {a b : Nat} (ha : a < 3) (hb : b < 3) : Op.bytesLess (nameB a).toList (nameB b).toList = decide (a < b) := by
  rcases three ha with rfl | rfl | rfl <;> rcases three hb with rfl | rfl | rfl <;> decide +kernel

theorem name_eq {a b : Nat} (ha : a < 3) (hb : b < 3) : ((nameB a).toList == (nameB b).toList) = decide (a = b) := by
  rcases three ha with rfl | rfl | rfl <;> rcases three hb with rfl | rfl | rfl <;> decide +kernel

/-- A slice value of k elements, one cell each, that holds f i at place i. -/
def SliceIs (w : World) (v : Value) (k : Nat) (f : Nat → Value) : Prop :=
  ∃ a c, v = .slice a k c ∧ (0 < k → ∃ g o, a = some ⟨g, o, none⟩ ∧ ∀ i, i < k → w.cell? ⟨g, o + i, none⟩ = some (f i))

theorem SliceIs.mono {w w' : World} {v : Value} {k : Nat} {f : Nat → Value} (h : SliceIs w v k f) (hw : ∀ (a : Addr) (u : Value), w.cell? a = some u → w'.cell? a = some u) : SliceIs w' v k f := by
  obtain ⟨a, c, rfl, hc⟩ := h
  refine ⟨a, c, rfl, fun hp => ?_⟩
  obtain ⟨g, o, rfl, hi⟩ := hc hp
  exact ⟨g, o, rfl, fun i hlt => hw _ _ (hi i hlt)⟩

/-- F lists, in order, the processes whose count is not nought. -/
structure Sub (F : Nat → Nat) (k : Nat) (c : Nat → Int) : Prop where
  le : k ≤ 3
  lt : ∀ i, i < k → F i < 3
  ne : ∀ i, i < k → c (F i) ≠ 0
  mono : ∀ i j, i < j → j < k → F i < F j
  all : ∀ q, q < 3 → c q ≠ 0 → ∃ i, i < k ∧ F i = q

def StampIs (w : World) (v : Value) (c : Nat → Int) : Prop :=
  ∃ nv cv k F, v = .agg #[nv, cv] ∧ Sub F k c ∧ SliceIs w nv k (fun i => .string (nameB (F i))) ∧ SliceIs w cv k (fun i => .int .u64 (c (F i)))

theorem StampIs.mono {w w' : World} {v : Value} {c : Nat → Int} (h : StampIs w v c) (hw : ∀ (a : Addr) (u : Value), w.cell? a = some u → w'.cell? a = some u) : StampIs w' v c := by
  obtain ⟨nv, cv, k, F, e, hs, h1, h2⟩ := h
  exact ⟨nv, cv, k, F, e, hs, h1.mono hw, h2.mono hw⟩

theorem name_any (q : Nat) (hq : q < 3) (w : World) : Calls Ybaf.prog 4 #[.int .i64 q] w fun e w' => e = .returned (.string (nameB q)) ∧ w' = w := by
  rcases three hq with rfl | rfl | rfl
  all_goals go_enter Ybaf.func4, Ybaf.ntmps4
  all_goals go_wp2
  all_goals go_ret
  all_goals exact ⟨rfl, rfl⟩

theorem less_any (a b : Nat) (ha : a < 3) (hb : b < 3) (w : World) : Calls Ybaf.prog 25 #[.string (nameB a), .string (nameB b)] w fun e w' => e = .returned (.bool (decide (a < b))) ∧ w' = w := by
  have h1 := name_less ha hb
  go_enter Ybaf.func25, Ybaf.ntmps25
  go_wp2
  go_ret
  exact ⟨rfl, rfl⟩

theorem nan_any (s : ByteArray) (w : World) : Calls Ybaf.prog 26 #[.string s] w fun e w' => e = .returned (.bool false) ∧ w' = w := by
  go_enter Ybaf.func26, Ybaf.ntmps26
  go_wp2
  go_ret
  exact ⟨rfl, rfl⟩

/-- What a search says: the place of q, or that it is nowhere. -/
def Found (k : Nat) (F : Nat → Nat) (q : Nat) (e : Ending) : Prop :=
  ∃ pos : Nat, (pos < k ∧ F pos = q ∧ e = .returned (.tuple #[.int .i64 pos, .bool true])) ∨ ((∀ i, i < k → F i ≠ q) ∧ e = .returned (.tuple #[.int .i64 pos, .bool false]))

set_option maxHeartbeats 1000000 in
theorem search_any (a : Option Addr) (k cap : Nat) (F : Nat → Nat) (q : Nat) (w : World) (hk : k ≤ 3) (hF3 : ∀ i, i < k → F i < 3) (hF : ∀ i j, i < j → j < k → F i < F j) (hq : q < 3)
    (hs : 0 < k → ∃ g o, a = some ⟨g, o, none⟩ ∧ ∀ i, i < k → w.cell? ⟨g, o + i, none⟩ = some (.string (nameB (F i)))) :
    Calls Ybaf.prog 14 #[.slice a k cap, .string (nameB q)] w fun e w' => Found k F q e ∧ w' = w := by
  go_enter Ybaf.func14, Ybaf.ntmps14
  go_wp2_with fail
  go_loop [7, 8] (fun vi vj => ∃ i j : Nat, i ≤ j ∧ j ≤ k ∧ (∀ t, t < i → F t < q) ∧ (∀ t, j ≤ t → t < k → q ≤ F t) ∧ vi = .int .i64 i ∧ vj = .int .i64 j) (fun vi vj => (intOf vj).toNat - (intOf vi).toNat)
  case atStart => exact ⟨0, k, by omega, by omega, fun t ht => by omega, fun t h1 h2 => by omega, rfl, rfl⟩
  case round =>
    obtain ⟨i, j, h1, h3, hlo, hhi, rfl, rfl⟩ := hrel
    by_cases hlt : i < j
    · obtain ⟨g, o, rfl, hc⟩ := hs (by omega)
      have hck := hc ((i + j) / 2) (by omega)
      have hm3 := hF3 ((i + j) / 2) (by omega)
      have HLO : Hid (∀ t, t < i → F t < q) := hlo
      have HHI : Hid (∀ t, j ≤ t → t < k → q ≤ F t) := hhi
      have HF : Hid (∀ i j, i < j → j < k → F i < F j) := hF
      clear hlo hhi hF hs hc hF3
      by_cases hm : F ((i + j) / 2) < q
      · have hd : decide (F ((i + j) / 2) < q) = true := by simpa using hm
        have HM : Hid (F ((i + j) / 2) < q) := hm
        clear hm
        go_wp2_with fail
        refine (less_any _ _ hm3 hq _).mono ?_
        rintro e w' ⟨rfl, rfl⟩
        go_wp2
        go_round
        case rel => exact ⟨(i + j) / 2 + 1, j, by omega, h3, fun t ht => (by
          by_cases e : t = (i + j) / 2
          · rw [e]; exact HM.out
          · have := HF.out t ((i + j) / 2) (by omega) (by omega); have := HM.out; omega), HHI.out, by go_num, rfl⟩
        case measure => simp [intOf]; omega
      · have hd : decide (F ((i + j) / 2) < q) = false := by simpa using hm
        have HM : Hid (¬ F ((i + j) / 2) < q) := hm
        clear hm
        go_wp2_with fail
        refine (less_any _ _ hm3 hq _).mono ?_
        rintro e w' ⟨rfl, rfl⟩
        go_wp2
        go_round
        case rel => exact ⟨i, (i + j) / 2, by omega, by omega, HLO.out, fun t h1 h2 => (by
          by_cases e : t = (i + j) / 2
          · rw [e]; have := HM.out; omega
          · have := HF.out ((i + j) / 2) t (by omega) h2; have := HM.out; omega), rfl, by go_num⟩
        case measure => simp [intOf]; omega
    · obtain rfl : i = j := by omega
      by_cases hik : i < k
      · obtain ⟨g, o, rfl, hc⟩ := hs (by omega)
        have hck := hc i hik
        have hi3 := hF3 i hik
        have hd : decide ((i : Int) < (k : Int)) = true := by simp; omega
        by_cases he : F i = q
        · have hne := name_eq hi3 hq
          have hb : ((nameB (F i)).toList == (nameB q).toList) = true := by rw [hne]; simpa using he
          clear hlo hhi hF hs hc hF3 hne
          have HE : Hid (F i = q) := he
          clear he
          go_wp2
          go_ret2
          exact ⟨⟨i, .inl ⟨hik, HE.out, rfl⟩⟩, rfl⟩
        · have hne := name_eq hi3 hq
          have hb : ((nameB (F i)).toList == (nameB q).toList) = false := by rw [hne]; simpa using he
          have HN : Hid (∀ t, t < k → F t ≠ q) := fun t ht e => by
            rcases Nat.lt_trichotomy t i with h | h | h
            · have := hlo t h; omega
            · subst h; exact he e
            · have := hF i t h ht; have := hhi i (Nat.le_refl _) hik; omega
          clear hlo hhi hF hs hc hF3 hne he
          go_wp2_with (go_at_call 26; refine (nan_any _ _).mono ?_; rintro e w' ⟨rfl, rfl⟩)
          go_ret2
          exact ⟨⟨i, .inr ⟨HN.out, rfl⟩⟩, rfl⟩
      · have hd : decide ((i : Int) < (k : Int)) = false := by simp; omega
        have HN : Hid (∀ t, t < k → F t ≠ q) := fun t ht e => by have := hlo t (by omega); omega
        clear hlo hhi hF hs hF3
        go_wp2
        go_ret2
        exact ⟨⟨i, .inr ⟨HN.out, rfl⟩⟩, rfl⟩

theorem entry_any (v : Value) (c : Nat → Int) (q : Nat) (hq : q < 3) (w : World) (hS : StampIs w v c) :
    Calls Ybaf.prog 7 #[v, .string (nameB q)] w fun e w' => e = .returned (.int .u64 (c q)) ∧ ∃ o, w.alloc o = w' := by
  obtain ⟨nv, cv, k, F, rfl, hsub, ⟨an, cn, rfl, hn⟩, ⟨ac, cc, rfl, hc⟩⟩ := hS
  have h3 := hsub.le
  go_enter Ybaf.func7, Ybaf.ntmps7
  go_wp2_with fail
  refine (search_any an k cn F q _ hsub.le hsub.lt hsub.mono hq ?_).mono ?_
  · intro hp
    obtain ⟨g, o, rfl, hi⟩ := hn hp
    exact ⟨g, o, rfl, fun i hlt => Lib.cell?_alloc_some _ (hi i hlt)⟩
  rintro e w' ⟨⟨pos, ⟨hlt, he, rfl⟩ | ⟨hnone, rfl⟩⟩, rfl⟩
  · obtain ⟨g, o, rfl, hi⟩ := hc (by omega)
    have hck : ∀ ob, (w.alloc ob).cell? ⟨g, o + pos, none⟩ = some (.int .u64 (c (F pos))) := fun ob => Lib.cell?_alloc_some ob (hi pos hlt)
    rw [he] at hck
    clear he hn hc hi
    go_wp2
    go_ret
    exact ⟨rfl, _, rfl⟩
  · have h0 : c q = 0 := Classical.byContradiction fun hne => by
      obtain ⟨i, hi, e⟩ := hsub.all q hq hne
      exact hnone i hi e
    have H0 : Hid (c q = 0) := h0
    clear hn hc h0 hnone
    go_wp2
    go_ret
    exact ⟨by rw [H0.out]; rfl, _, rfl⟩


set_option maxHeartbeats 1000000 in
theorem stampOf_any (an : Option Addr) (cn : Nat) (ac : Option Addr) (cc k : Nat) (F : Nat → Nat) (C : Nat → Int) (w : World) (hk : k ≤ 3) (hF3 : ∀ i, i < k → F i < 3) (hF : ∀ i j, i < j → j < k → F i < F j) (hC : ∀ i, i < k → C i ≠ 0)
    (hn : 0 < k → ∃ g o, an = some ⟨g, o, none⟩ ∧ ∀ i, i < k → w.cell? ⟨g, o + i, none⟩ = some (.string (nameB (F i))))
    (hc : 0 < k → ∃ g o, ac = some ⟨g, o, none⟩ ∧ ∀ i, i < k → w.cell? ⟨g, o + i, none⟩ = some (.int .u64 (C i))) :
    Calls Ybaf.prog 5 #[.slice an k cn, .slice ac k cc] w fun e w' => e = .returned (.tuple #[.agg #[.slice an k cn, .slice ac k cc], .nilIface]) ∧ Below w.heap.size w w' := by
  go_enter Ybaf.func5, Ybaf.ntmps5
  go_wp2_with fail
  go_loopw [24] (fun i wr => ∃ j : Nat, j ≤ k ∧ i = .int .i64 j ∧ Below w.heap.size w wr ∧ wr.heap[w.heap.size]? = some (.cells #[.slice none 0 0, .slice none 0 0] 37 (0, 0))) (fun i _ => k - (intOf i).toNat)
  case atStart => exact ⟨0, Nat.zero_le _, rfl, (Below.refl _ w).alloc (Nat.le_refl _) _, heap_alloc_new w _⟩
  case round =>
    obtain ⟨j, hj, rfl, hB, hh⟩ := hrel
    by_cases hlt : j < k
    · obtain ⟨gc, oc, rfl, hci⟩ := hc (by omega)
      obtain ⟨gn, on, rfl, hni⟩ := hn (by omega)
      have c1 : wr.cell? ⟨gc, oc + j, none⟩ = some (.int .u64 (C j)) := (hB.cell (p := ⟨gc, oc + j, none⟩) (block_lt_of_cell (hci j hlt))).trans (hci j hlt)
      have n1 : wr.cell? ⟨gn, on + j, none⟩ = some (.string (nameB (F j))) := (hB.cell (p := ⟨gn, on + j, none⟩) (block_lt_of_cell (hni j hlt))).trans (hni j hlt)
      have z : (C j == 0) = false := by simpa using hC j hlt
      by_cases h0 : j = 0
      · have hd : decide (0 < j) = false := by simp; omega
        clear hn hc hF3 hF hC hci hni h0
        go_wp2_with fail
        go_quiet (fail)
        go_wp2
        go_roundw
        case rel => exact ⟨j + 1, by omega, by go_num, below_drewN hB nq, hh⟩
        case measure => simp [intOf]; omega
      · have hd : decide (0 < j) = true := by simp; omega
        have n0 : wr.cell? ⟨gn, on + (j - 1), none⟩ = some (.string (nameB (F (j - 1)))) := (hB.cell (p := ⟨gn, on + (j - 1), none⟩) (block_lt_of_cell (hni (j - 1) (by omega)))).trans (hni (j - 1) (by omega))
        have hb : Op.bytesLess (nameB (F (j - 1))).toList (nameB (F j)).toList = true := by
          rw [name_less (hF3 _ (by omega)) (hF3 _ hlt)]
          simpa using hF (j - 1) j (by omega) hlt
        have hj1 : (1 : Int) ≤ (j : Int) := by omega
        have hjk : (j : Int) < (k : Int) := by omega
        clear hn hc hF3 hF hC hci hni h0
        go_wp2_with fail
        go_quiet (fail)
        go_wp2
        go_roundw
        case rel => exact ⟨j + 1, by omega, by go_num, below_drewN hB nq, hh⟩
        case measure => simp [intOf]; omega
    · have c0 : wr.cell? ⟨w.heap.size, 0, none⟩ = some (.slice none 0 0) := by simp [World.cell?, hh]
      have c1 : wr.cell? ⟨w.heap.size, 1, none⟩ = some (.slice none 0 0) := by simp [World.cell?, hh]
      have f0 : wr.frozen? ⟨w.heap.size, 0, none⟩ = false := by simp [World.frozen?, hh]
      have f1 : wr.frozen? ⟨w.heap.size, 1, none⟩ = false := by simp [World.frozen?, hh]
      clear hn hc hF3 hF hC hh
      go_wp2
      exact bodyPost_ret (v := .tuple #[.agg #[.slice an k cn, .slice ac k cc], .nilIface]) (by simp [results, Ybaf.results5, go_sem, c0, c1]) rfl ⟨rfl, (hB.setCell (p := ⟨w.heap.size, 0, none⟩) (Nat.le_refl _) _).setCell (p := ⟨w.heap.size, 1, none⟩) (Nat.le_refl _) _⟩

end Go.Proofs.YbulkcjpqFmt
