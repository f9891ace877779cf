import Derived.Test.YbulkcjpqTrunc
namespace Go.Proofs.Ybulkcjpq.lawS4280CAfterTruncate
open Go.RowKit Go.Deep
set_option linter.unusedVariables false
set_option linter.unusedSimpArgs false

theorem walk_long (a0 : Option Addr) (len0 cap0 : Nat) (a1 a2 : Int) (a3 : Option Addr) (len3 cap3 : Nat) (w : World) (h : 1024 < len0 ∨ 1024 < len3) :
    Calls Yba.prog 6 #[.slice a0 len0 cap0, .int .u8 a1, .int .u16 a2, .slice a3 len3 cap3] w fun e w' => e = .returned (.bool true) ∧ Below w.heap.size w w' := by
  by_cases h0 : 1024 < len0
  · have hd : decide ((1024 : Int) < (len0 : Int)) = true := by simp; omega
    go_enter Yba.func6, Yba.ntmps6
    go_wp2
    go_ret
    exact ⟨rfl, Below.refl _ _⟩
  · have h3 : 1024 < len3 := by omega
    have hd : decide ((1024 : Int) < (len0 : Int)) = false := by simp; omega
    have hd : decide ((1024 : Int) < (len3 : Int)) = true := by simp; omega
    go_enter Yba.func6, Yba.ntmps6
    go_wp2
    go_ret
    exact ⟨rfl, Below.refl _ _⟩

set_option maxHeartbeats 2000000 in
theorem walk_main (a : Option Addr) (len cap0 : Nat) (zs : List Int) (a1 a2 : Int) (ab : Option Addr) (lb capb : Nat) (bs : List Int) (w : World) (h1 : 0 ≤ a1) (h2 : a1 ≤ 255) (h3 : 0 ≤ a2) (h4 : a2 ≤ 65535)
    (hl : len ≤ 1024) (hz : len ≤ zs.length) (hlb : lb ≤ 1024) (hzb : lb ≤ bs.length)
    (ha : 0 < len → ∃ b off, a = some ⟨b, off, none⟩ ∧ ∀ i, i < len → w.cell? ⟨b, off + i, none⟩ = some (.int .i64 (zs.getD i 0)))
    (hbn : ab = none → lb = 0 ∧ capb = 0)
    (hb : 0 < lb → ∃ b off, ab = some ⟨b, off, none⟩ ∧ ∀ i, i < lb → w.cell? ⟨b, off + i, none⟩ = some (.int .i64 (bs.getD i 0))) :
    Calls Yba.prog 6 #[.slice a len cap0, .int .u8 a1, .int .u16 a2, .slice ab lb capb] w fun e w' => e = .returned (.bool true) ∧ Below w.heap.size w w' := by
  obtain ⟨m, hm1, hm2⟩ : ∃ m : Nat, a1 % 7 * 1400 = (m : Int) ∧ m ≤ 100000 := ⟨(a1 % 7 * 1400).toNat, by omega, by omega⟩
  have hd1 : decide ((1024 : Int) < (len : Int)) = false := by simp; omega
  have hd2 : decide ((1024 : Int) < (lb : Int)) = false := by simp; omega
  go_enter Yba.func6, Yba.ntmps6
  go_wp2_with fail
  have HM : Hid (a1 % 7 * 1400 = (m : Int)) := hm1
  clear hm1
  refine (fill_any _ w.heap.size m len cap0 a zs hm2 hl hz (heap_alloc_new w _) ?_).mono ?_
  · intro hp
    obtain ⟨b, off, e, hc⟩ := ha hp
    have hlt := block_lt_of_cell (hc 0 hp)
    exact ⟨b, off, e, by simp at hlt; omega, fun i hi => Lib.cell?_alloc_some _ (hc i hi)⟩
  rintro e w2 ⟨rfl, hF⟩
  have hbc : 0 < lb → ∃ b off, ab = some ⟨b, off, none⟩ ∧ b ≠ w.heap.size ∧ ∀ i, i < lb → (w.alloc (Obj.cells #[Value.slice none 0 0, Value.int IntKind.i64 0] 37)).cell? ⟨b, off + i, none⟩ = some (.int .i64 (bs.getD i 0)) := by
    intro hp
    obtain ⟨b, off, e, hc⟩ := hb hp
    have hlt := block_lt_of_cell (hc 0 hp)
    exact ⟨b, off, e, by simp at hlt; omega, fun i hi => Lib.cell?_alloc_some _ (hc i hi)⟩
  clear ha hb
  generalize hw1 : w.alloc (Obj.cells #[Value.slice none 0 0, Value.int IntKind.i64 0] 37) = w1 at hF hbc
  have hB1 : Below w.heap.size w w1 := hw1 ▸ (Below.refl _ w).alloc (Nat.le_refl _) _
  have hs1 : w1.heap.size = w.heap.size + 1 := by rw [← hw1]; simp
  generalize hxs : fill3 m ++ zs.take len = xs at hF
  clear hw1 hxs
  obtain ⟨cut, hcut, hcut2⟩ : ∃ cut : Nat, a2 % ((m : Int) + len + 1) = (cut : Int) ∧ cut ≤ m + len := ⟨(a2 % ((m : Int) + len + 1)).toNat, by have := Int.emod_nonneg a2 (show ((m : Int) + len + 1) ≠ 0 by omega); omega, by have := Int.emod_lt_of_pos a2 (show (0 : Int) < (m : Int) + len + 1 by omega); omega⟩
  go_wp2_with fail
  simp only [hcut]
  have hmb : m + len ≤ 200000 := by omega
  clear hcut h3 h4 hm2 HM h1 h2 hl hz
  refine (truncate_fill cut hF (by omega) hcut2).mono ?_
  rintro e w3 ⟨rfl, hT⟩
  have hsz := hF.1
  clear hF
  obtain ⟨i0, hi, hz0, hz1, hz2⟩ := info_parts Yba.info3
  go_wp2_with fail
  go_loopw [43] (fun i wr => ∃ j : Nat, j ≤ lb ∧ i = .int .i64 j ∧ Tail w1 wr w.heap.size w1.heap.size (m + len) (m + len) xs (xs.take cut ++ bs.take j) (cut + j)) (fun i _ => lb - (intOf i).toNat)
  case atStart => exact ⟨0, Nat.zero_le _, rfl, by simpa using hT⟩
  case round =>
    clear hT
    obtain ⟨j, hj, rfl, hT⟩ := hrel
    by_cases hlt : j < lb
    · obtain ⟨b, off, rfl, hbne, hcells⟩ := hbc (by omega)
      have hcj : wr.cell? ⟨b, off + j, none⟩ = some (.int .i64 (bs.getD j 0)) := hT.2.2.1.cell (hcells j hlt) hbne
      generalize hys : xs.take cut ++ bs.take j = ys at hT
      have HY : Hid (xs.take cut ++ bs.take j = ys) := hys
      clear hbc hcells hys hbn
      go_wp2_with fail
      refine (append_tail _ hT (by omega)).mono ?_
      rintro e w4 ⟨rfl, hT'⟩
      clear hT hcj
      go_wp2
      go_roundw
      case rel => exact ⟨j + 1, by omega, by go_num, by rw [take_succ_getD bs j (by omega), ← List.append_assoc, HY.out]; exact hT'⟩
      case measure => simp [intOf]; omega
    · obtain rfl : j = lb := by omega
      generalize hxc : xs.take cut = xc at hT
      generalize hyc : bs.take j = bc at hT
      have HX : Hid (xs.take cut = xc) := hxc
      have HB : Hid (bs.take j = bc) := hyc
      have HLX : Hid ((xc.map (Value.int .i64)).length = cut * 1) := by show (xc.map (Value.int .i64)).length = cut * 1; rw [← hxc]; simp; omega
      have HLB : Hid ((bc.map (Value.int .i64)).length = j * 1) := by show (bc.map (Value.int .i64)).length = j * 1; rw [← hyc]; simp; omega
      clear hxc hyc
      have hwrs : w.heap.size + 1 < wr.heap.size := by have := (hT.2.1.lt w1.heap.size rfl).2; omega
      go_wp2_with (at_make; refine wpList_make_own _ rfl (.const (.int .i64 0)) (.tmp 53) 34 rfl wr.heap.size 3 i0 (.int .i64 0) 1 Yba.underlying34 hi hz0 hz1 .i64 .i64 _ (cut + j) rfl rfl (by omega) (by rw [hz2]; omega) (by unfold maxLen; omega) (Nat.le_refl _) ?_)
      intro w5 hown5 hgrow5
      have hK5 : Kept (fun k => k = wr.heap.size) wr w5 := (Kept.refl _ wr).grown hgrow5 (fun _ h => by cases h)
      have hcw : ∀ t u, (xc.map (Value.int .i64))[t]? = some u → w5.cell? ((⟨w.heap.size + 1, 0, none⟩ : Addr).add t) = some u := by
        intro t u hu
        rw [← HX.out] at hu
        rw [Addr.add_lit, Nat.zero_add]
        have ht : t < cut := by have := (List.getElem?_eq_some_iff.1 hu).1; simp at this; omega
        have ho5 := hK5.owns hT.2.1 (fun k hk => by simp [Value.ownBlock] at hk; omega)
        rw [hs1] at ho5
        rw [ho5.cellAt t (by omega), ← hu]
        simp [List.getElem?_take, ht]
      go_wp2_with (at_builtin; refine wpList_append_fits _ rfl (.tmp 55) (.tmp 58) 34 rfl wr.heap.size 3 i0 1 Yba.underlying34 hi hz1 wr.heap.size 0 (cut + j) [] rfl hown5 ⟨w.heap.size + 1, 0, none⟩ cut (m + len) (xc.map (Value.int .i64)) rfl HLX.out hcw (ints_oneCell _ _) (by omega) ?_)
      intro w6 hown6 hgrow6
      try simp only [Nat.zero_add, List.nil_append] at hown6
      have hK6 : Kept (fun k => k = wr.heap.size) wr w6 := hK5.grown hgrow6 (fun k h => by simpa using h.symm)
      clear hcw hK5 hown5 hgrow5 hgrow6
      have hcb : ∀ ad, ab = some ad → ∀ t u, (bc.map (Value.int .i64))[t]? = some u → w6.cell? (ad.add t) = some u := by
        intro ad had t u hu
        rw [← HB.out] at hu
        have ht : t < j := by have := (List.getElem?_eq_some_iff.1 hu).1; simp at this; omega
        obtain ⟨b, off, e, hbne, hcells⟩ := hbc (by omega)
        rw [e] at had
        obtain rfl := Option.some.inj had
        have hc := hT.2.2.1.cell (hcells t ht) hbne
        have hlt := block_lt_of_cell hc
        rw [Addr.add_lit, hK6.cell hc (by simp at hlt; simp; omega), ← hu]
        simp [List.getElem?_take, ht, List.getD, show t < bs.length by omega]
      go_wp2_with (at_builtin; refine wpList_append_fits_any _ rfl (.tmp 60) (.tmp 61) 34 rfl wr.heap.size 3 i0 1 Yba.underlying34 hi hz1 wr.heap.size cut (cut + j) (xc.map (Value.int .i64)) rfl hown6 ab j capb (bc.map (Value.int .i64)) rfl HLB.out hbn hcb (ints_oneCell _ _) (by omega) ?_)
      intro w7 hown7 hgrow7
      have hK7 : Kept (fun k => k = wr.heap.size) wr w7 := hK6.grown hgrow7 (fun k h => by simpa using h.symm)
      clear hcb hK6 hown6 hgrow7 hbn hbc
      go_wp2_with fail
      obtain ⟨hyl, hoT, hkT, f, v, gs, hC, hg, hf⟩ := hT
      have hC7 : Ch w7 w1.heap.size w.heap.size f (cut + j) v gs := ⟨hC.1.kept hK7 (fun i hi _ e => by omega), hC.2⟩
      refine (holds_any w7 _ w.heap.size (cut + j) f v gs wr.heap.size _ (xc ++ bc) (by omega) hyl hC7 hf ?_).mono ?_
      · intro i hi'
        rw [hown7.cellAt i (by omega), ← List.map_append]
        have hli : i < (xc ++ bc).length := by omega
        clear hyl hf
        generalize xc ++ bc = l at hli ⊢
        simp [List.getD, hli]
      rintro e w8 ⟨rfl, rfl⟩
      have hB : Below w.heap.size w w8 := hB1.trans ((hkT.then_ hK7 (fun i hi e => by have := hC.1.size; omega)).below (by omega) (fun k hk e => by omega))
      go_wp2
      go_ret
      exact ⟨rfl, hB⟩
end Go.Proofs.Ybulkcjpq.lawS4280CAfterTruncate
