import Derived.Test.YbulkcjpqHolds
import Derived.Lib.SliceRun
namespace Go.Proofs.Ybulkcjpq
open Go.RowKit Go.Deep
set_option linter.unusedVariables false
set_option linter.unusedSimpArgs false

theorem zero34 (w : World) : (zeroValue 34).run Yba.prog w = .ok (.slice none 0 0) w := by kernel_rfl

theorem setCells_row (g : Nat) (t : TypeId) : ∀ (vs : List Value) (o : Nat) (w : World) (cur : Array Value), w.heap[g]? = some (.cells cur t (0, 0)) →
    ∃ cur', (w.setCells g o vs).heap[g]? = some (.cells cur' t (0, 0)) ∧ cur'.size = cur.size ∧ ∀ i, i < o → cur'[i]? = cur[i]?
  | [], _, w, cur, h => ⟨cur, h, rfl, fun _ _ => rfl⟩
  | v :: vs, o, w, cur, h => by
    have h1 : (w.setCell ⟨g, o, none⟩ v).heap[g]? = some (.cells (cur.setIfInBounds o v) t (0, 0)) := by
      simp [World.setCell, Array.getElem?_modify, h]
    obtain ⟨cur', e1, e2, e3⟩ := setCells_row g t vs (o + 1) (w.setCell ⟨g, o, none⟩ v) (cur.setIfInBounds o v) h1
    refine ⟨cur', e1, by simpa using e2, fun i hi => ?_⟩
    rw [e3 i (by omega), Array.getElem?_setIfInBounds, if_neg (by omega)]

theorem setCells_kept (g : Nat) : ∀ (vs : List Value) (o : Nat) (w : World), Kept (fun k => k = g) w (w.setCells g o vs)
  | [], _, w => Kept.refl _ w
  | v :: vs, o, w => ((Kept.refl (fun k => k = g) w).setCell (p := ⟨g, o, none⟩) rfl v).trans (setCells_kept g vs (o + 1) _)

/-- The list cut to its first t numbers: w1 is the world in which the blocks' slice has been wiped from its q-th place on. -/
theorem Mid.cut {w w1 : World} {base cb : Nat} {f : Nat → Int} {n g L cap q t : Nat} {gs : List Nat} (h : Mid w base cb f n (.slice (some ⟨g, 0, none⟩) L cap) gs) (hq : q ≤ gs.length)
    (hK : Kept (fun k => k = g) w w1) (cur' : ∀ cur, w.heap[g]? = some (.cells cur 34 (0, 0)) → ∃ cur', w1.heap[g]? = some (.cells cur' 34 (0, 0)) ∧ cur'.size = cur.size ∧ ∀ i, i < q → cur'[i]? = cur[i]?) :
    Mid ((w1.setCell ⟨cb, 0, none⟩ (.slice (some ⟨g, 0, none⟩) q cap)).setCell ⟨cb, 1, none⟩ (.int .i64 t)) base cb f t (.slice (some ⟨g, 0, none⟩) q cap) (gs.take q) := by
  have hlo := h.lo
  have hgb := (h.own.lt g rfl).1
  have e1 : w1.heap[cb]? = some (.cells #[.slice (some ⟨g, 0, none⟩) L cap, .int .i64 n] 37 (0, 0)) := (hK.block cb (lt_of_block h.here) (by omega)).trans h.here
  have hlen : (gs.take q).length = q := by simp; omega
  refine ⟨two_set1 (two_set0 e1), ?_, ?_, h.nodup.sublist (List.take_sublist _ _), hlo, ?_⟩
  · refine ownsRow_setCell_other (ownsRow_setCell_other ?_ (by simp [Value.ownBlock]; omega) _) (by simp [Value.ownBlock]; omega) _
    rcases h.own.2 with ⟨h0, _⟩ | ⟨g', cap', cur, hv, hb, hg, hnc, hcm, hcs, htake⟩
    · cases h0
    · simp only [Value.slice.injEq, Option.some.injEq, Addr.mk.injEq, and_true, true_and] at hv
      obtain ⟨rfl, rfl, rfl⟩ := hv
      obtain ⟨c', k1, k2, k3⟩ := cur' cur hg
      refine ⟨by simp, .inr ⟨g, cap, c', by rw [hlen], hb, k1, by omega, hcm, by omega, ?_⟩⟩
      rw [hlen]
      apply List.ext_getElem?
      intro i
      have e := congrArg (fun l => l[i]?) htake
      simp only [List.getElem?_take, List.getElem?_map] at e ⊢
      by_cases hi : i < q
      · rw [if_pos (by omega)] at e
        rw [if_pos (by omega), if_pos hi, ← e]
        simpa using k3 i hi
      · rw [if_neg (by omega), if_neg hi]
        rfl
  · intro j b hj
    have hjq : j < q := by have := (List.getElem?_eq_some_iff.1 hj).1; omega
    rw [List.getElem?_take, if_pos hjq] at hj
    obtain ⟨r1, r2⟩ := h.rows j b hj
    have hbg : b ≠ g := fun e => h.blockNe (List.mem_of_getElem? hj) (by simp [Value.ownBlock, e])
    exact ⟨r1, ((hK.row r2 hbg).setOther (show b ≠ cb by omega) _).setOther (show b ≠ cb by omega) _⟩
  · simp only [World.size_setCell]
    exact Nat.le_trans h.size hK.size

theorem size34 (w : World) : (sizeOf 34).run Yba.prog w = .ok 1 w := by kernel_rfl
theorem elem35 : Yba.prog.elem 35 = 34 := by kernel_rfl

theorem capOf {w : World} {base g n cap : Nat} {e : TypeId} {xs : List Value} (h : w.ownsRow base e 1 (.slice (some ⟨g, 0, none⟩) n cap) n xs) : n ≤ cap := by
  rcases h.2 with ⟨h0, _⟩ | ⟨g', cap', cur, hv, hb, hg, hnc, hcm, hcs, htake⟩
  · cases h0
  · simp only [Value.slice.injEq, Option.some.injEq, Addr.mk.injEq, and_true, true_and] at hv
    obtain ⟨rfl, rfl⟩ := hv
    exact hnc

theorem wiped {w : World} {base cb n : Nat} {f : Nat → Int} {g cap : Nat} {gs : List Nat} (hM : Mid w base cb f n (.slice (some ⟨g, 0, none⟩) gs.length cap) gs) (q : Nat) (hq : q ≤ gs.length) :
    ∃ ao w1, (∀ w, (Instr.slice 35 (.slice (some ⟨g, 0, none⟩) gs.length cap) (some (.int .i64 (q : Int))) none none).run Yba.prog w = .ok (.slice ao (gs.length - q) (cap - q)) w) ∧
      (∀ ty, (Builtin.clear_ #[35] ty #[.slice ao (gs.length - q) (cap - q)]).run Yba.prog w = .ok (.tuple #[]) w1) ∧ Kept (fun k => k = g) w w1 ∧
      ∀ cur, w.heap[g]? = some (.cells cur 34 (0, 0)) → ∃ cur', w1.heap[g]? = some (.cells cur' 34 (0, 0)) ∧ cur'.size = cur.size ∧ ∀ i, i < q → cur'[i]? = cur[i]? := by
  have hcap := capOf hM.own
  have hsl : ∀ w, (Instr.slice 35 (.slice (some ⟨g, 0, none⟩) gs.length cap) (some (.int .i64 (q : Int))) none none).run Yba.prog w = .ok (.slice (if cap = q then some ⟨g, 0, none⟩ else some ⟨g, q, none⟩) (gs.length - q) (cap - q)) w := fun w => by
    have h := run_slice_l (P := Yba.prog) w 35 (some ⟨g, 0, none⟩) gs.length cap (by rw [elem35]; exact Yba.underlying35) .i64 (q : Int) (by omega) (by omega)
    rw [h, elem35, size34]
    simp [Result.andThen, sliced, Addr.add_lit]
  by_cases hql : q < gs.length
  · refine ⟨_, w.setCells g q (List.replicate (gs.length - q) (.slice none 0 0)), hsl, ?_, setCells_kept g _ _ _, fun cur hc => setCells_row g 34 _ q w cur hc⟩
    rw [if_neg (by omega)]
    exact fun ty => Lib.run_clear_slice w 35 34 ty (.slice none 0 0) Yba.underlying35 zero34 rfl rfl g q _ _ (by omega) (fun j hj => by rw [hM.own.cellAt (q + j) (by omega)]; simp; omega) (fun j hj => hM.own.frozenAt _)
  · refine ⟨_, w, hsl, fun ty => ?_, Kept.refl _ w, fun cur hc => ⟨cur, hc, rfl, fun _ _ => rfl⟩⟩
    rw [show gs.length - q = 0 by omega]
    split <;> simp [Builtin.clear_, run_underlying Yba.underlying35]

set_option maxHeartbeats 1000000 in
theorem truncate_some (w : World) (base cb n t : Nat) (f : Nat → Int) (g cap : Nat) (gs : List Nat) (hn : n ≤ 1000000) (ht : t ≤ n)
    (hC : Ch w base cb f n (.slice (some ⟨g, 0, none⟩) gs.length cap) gs) :
    Calls Yba.prog 12 #[.pointer (some ⟨cb, 0, none⟩), .int .i64 t] w fun e w' => e = .returned (.tuple #[]) ∧ ∃ v', Ch w' base cb f t v' (gs.take ((t + 4095) / 4096)) ∧ Kept (foot cb (.slice (some ⟨g, 0, none⟩) gs.length cap) gs) w w' := by
  have hq0 : (t + 4095) / 4096 ≤ gs.length := by have := hC.2; omega
  obtain ⟨q, hq1⟩ : ∃ q, q = (t + 4095) / 4096 := ⟨_, rfl⟩
  have hqi : ((t : Int) + 4096 - 1) / 4096 = (q : Int) := by omega
  rw [← hq1]
  have hq : q ≤ gs.length := by omega
  have hcap := capOf hC.1.own
  obtain ⟨ao, w1, hsl, hcl, hK, hcur⟩ := wiped hC.1 q hq
  rw [← hqi] at hsl
  have hsh : ∀ w, (Instr.slice 35 (.slice (some ⟨g, 0, none⟩) gs.length cap) none (some (.int .i64 (((t : Int) + 4096 - 1) / 4096))) none).run Yba.prog w = .ok (.slice (some ⟨g, 0, none⟩) q cap) w := fun w => by
    have h := run_slice_h (P := Yba.prog) w 35 (some ⟨g, 0, none⟩) gs.length cap (by rw [elem35]; exact Yba.underlying35) .i64 (q : Int) (by omega) (by omega)
    rw [hqi, h, elem35, size34]
    simp [Result.andThen, sliced, Addr.add_lit]
  have c0 := two_cell0 hC.1.here
  have e1 : w1.heap[cb]? = some (.cells #[.slice (some ⟨g, 0, none⟩) gs.length cap, .int .i64 n] 37 (0, 0)) := (hK.block cb (lt_of_block hC.1.here) (by have := hC.1.lo; have := (hC.1.own.lt g rfl).1; omega)).trans hC.1.here
  have d0 := two_cell0 e1
  have d1 := two_cell1 e1
  have fr0 := two_free e1 0
  have fr1 := two_free e1 1
  have fin := hC.1.cut (t := t) hq hK hcur
  have FIN : Hid (Ch ((w1.setCell ⟨cb, 0, none⟩ (.slice (some ⟨g, 0, none⟩) q cap)).setCell ⟨cb, 1, none⟩ (.int .i64 t)) base cb f t (.slice (some ⟨g, 0, none⟩) q cap) (gs.take q) ∧ Kept (foot cb (.slice (some ⟨g, 0, none⟩) gs.length cap) gs) w ((w1.setCell ⟨cb, 0, none⟩ (.slice (some ⟨g, 0, none⟩) q cap)).setCell ⟨cb, 1, none⟩ (.int .i64 t))) :=
    ⟨⟨fin, by simp; omega⟩, ((hK.wide (fun k _ e => .inr (.inr (by simp [Value.ownBlock, e])))).setCell (p := ⟨cb, 0, none⟩) (.inl rfl) _).setCell (p := ⟨cb, 1, none⟩) (.inl rfl) _⟩
  clear fin hC hK hcur e1 hqi hq1 hq0
  go_enter Yba.func12, Yba.ntmps12
  go_wp2_with (simp only [hcl])
  go_end0
  exact ⟨rfl, _, FIN.out.1, FIN.out.2⟩

theorem truncate_nil (w : World) (cb : Nat) (hc : w.heap[cb]? = some (.cells #[.slice none 0 0, .int .i64 0] 37 (0, 0))) :
    Calls Yba.prog 12 #[.pointer (some ⟨cb, 0, none⟩), .int .i64 0] w fun e w' => e = .returned (.tuple #[]) ∧ w' = (w.setCell ⟨cb, 0, none⟩ (.slice none 0 0)).setCell ⟨cb, 1, none⟩ (.int .i64 0) := by
  have c0 := two_cell0 hc
  have c1 := two_cell1 hc
  have fr0 := two_free hc 0
  have fr1 := two_free hc 1
  have hcl : ∀ ty, (Builtin.clear_ #[35] ty #[.slice none 0 0]).run Yba.prog w = .ok (.tuple #[]) w := fun ty => by simp [Builtin.clear_, run_underlying Yba.underlying35]
  clear hc
  go_enter Yba.func12, Yba.ntmps12
  go_wp2_with (simp only [hcl])
  go_end0
  exact ⟨rfl, rfl⟩

theorem truncate_any (w : World) (base cb n t : Nat) (f : Nat → Int) (v : Value) (gs : List Nat) (hn : n ≤ 1000000) (ht : t ≤ n) (hC : Ch w base cb f n v gs) :
    Calls Yba.prog 12 #[.pointer (some ⟨cb, 0, none⟩), .int .i64 t] w fun e w' => e = .returned (.tuple #[]) ∧ ∃ v' gs', Ch w' base cb f t v' gs' ∧ Kept (foot cb v gs) w w' ∧ ∀ k ∈ gs', k ∈ gs := by
  rcases hC.1.own.2 with ⟨rfl, h0⟩ | ⟨g, cap, cur, rfl, hb, _⟩
  · have hn0 : n = 0 := by have := hC.2; omega
    subst hn0
    obtain rfl : t = 0 := by omega
    obtain rfl : gs = [] := List.eq_nil_of_length_eq_zero h0
    refine (truncate_nil w cb hC.1.here).mono ?_
    rintro e w' ⟨rfl, rfl⟩
    refine ⟨rfl, .slice none 0 0, [], ⟨⟨two_set1 (two_set0 hC.1.here), World.ownsRow_nil _ _ _ _, fun j g h => by simp at h, List.nodup_nil, hC.1.lo, ?_⟩, rfl⟩, ((Kept.refl _ w).setCell (p := ⟨cb, 0, none⟩) (.inl rfl) _).setCell (p := ⟨cb, 1, none⟩) (.inl rfl) _, fun _ h => h⟩
    simp only [World.size_setCell]
    exact hC.1.size
  · refine (truncate_some w base cb n t f g cap gs hn ht hC).mono ?_
    rintro e w' ⟨rfl, v', h1, h2⟩
    exact ⟨rfl, v', _, h1, h2, fun k hk => List.mem_of_mem_take hk⟩

/-! ### The list behind the cut, beside the slice 'want' -/

def Tail (w0 w : World) (cb gw capw nw : Nat) (xs ys : List Int) (n : Nat) : Prop :=
  ys.length = n ∧ w.ownsRow w0.heap.size 3 1 (.slice (some ⟨gw, 0, none⟩) nw capw) nw (xs.map (Value.int .i64)) ∧ Kept (fun k => k = cb) w0 w ∧
    ∃ f v gs, Ch w w0.heap.size cb f n v gs ∧ gw ∉ gs ∧ ∀ k, k < n → f k = ys.getD k 0

theorem tail_step {w0 w w1 : World} {cb gw capw nw : Nat} {xs : List Int} {f f' : Nat → Int} {n : Nat} {v : Value} {gs : List Nat}
    (ho : w.ownsRow w0.heap.size 3 1 (.slice (some ⟨gw, 0, none⟩) nw capw) nw (xs.map (Value.int .i64))) (hk : Kept (fun k => k = cb) w0 w)
    (hc : Ch w w0.heap.size cb f n v gs) (hg : gw ∉ gs) (c4 : Kept (foot cb v gs) w w1) :
    w1.ownsRow w0.heap.size 3 1 (.slice (some ⟨gw, 0, none⟩) nw capw) nw (xs.map (Value.int .i64)) ∧ Kept (fun k => k = cb) w0 w1 := by
  have hlt := ho.lt gw rfl
  have hcb := hc.1.lo
  refine ⟨c4.owns ho ?_, hk.then_ c4 ?_⟩
  · intro k hk' hf'
    have hkg : gw = k := by simpa [Value.ownBlock] using hk'
    rcases hf' with e | e | e
    · omega
    · rw [← hkg] at e; exact hg e
    · exact own3ne34 ho hc.1.own k hk' e
  · intro i hi ht
    rcases ht with e | e | e
    · exact e
    · obtain ⟨j, hj⟩ := List.getElem?_of_mem e
      have := (hc.1.rows j i hj).1
      omega
    · have := (hc.1.own.lt i e).1
      omega

theorem truncate_fill {w0 w : World} {cb gw cap n : Nat} {xs : List Int} (t : Nat) (h : Fill w0 w cb gw cap n xs) (hn : n ≤ 1000000) (ht : t ≤ n) :
    Calls Yba.prog 12 #[.pointer (some ⟨cb, 0, none⟩), .int .i64 t] w fun e w' => e = .returned (.tuple #[]) ∧ Tail w0 w' cb gw cap n xs (xs.take t) t := by
  obtain ⟨hl, ho, hk, f, v, gs, hc, hg, hf⟩ := h
  refine (truncate_any w w0.heap.size cb n t f v gs hn ht hc).mono ?_
  rintro e w1 ⟨rfl, v', gs', c1, c2, c3⟩
  obtain ⟨t1, t2⟩ := tail_step (f' := f) ho hk hc hg c2
  refine ⟨rfl, by simp; omega, t1, t2, f, v', gs', c1, fun hm => hg (c3 _ hm), fun k hk' => ?_⟩
  rw [hf]
  simp [List.getD, List.getElem?_take, hk']

theorem append_tail {w0 w : World} {cb gw capw nw n : Nat} {xs ys : List Int} (x : Int) (h : Tail w0 w cb gw capw nw xs ys n) (hn : n ≤ 1000000) :
    Calls Yba.prog 13 #[.pointer (some ⟨cb, 0, none⟩), .int .i64 x] w fun e w' => e = .returned (.tuple #[]) ∧ Tail w0 w' cb gw capw nw xs (ys ++ [x]) (n + 1) := by
  obtain ⟨hl, ho, hk, f, v, gs, hc, hg, hf⟩ := h
  have hlt := ho.lt gw rfl
  refine (append_any w w0.heap.size cb f n v gs x hc hn).mono ?_
  rintro e w1 ⟨rfl, f', v', gs', c1, c2, c3, c4, c5⟩
  obtain ⟨t1, t2⟩ := tail_step (f' := f) ho hk hc hg c4
  refine ⟨rfl, by simp [hl], t1, t2, f', v', gs', c1, fun hm => ?_, fun k hk' => ?_⟩
  · rcases c5 gw hm with e | e
    · exact hg e
    · omega
  · by_cases e : k = n
    · subst e
      rw [c2, ← hl]
      simp [List.getD]
    · rcases c3 k e with e' | ⟨e', _⟩
      · rw [e', hf k (by omega)]
        simp [List.getD, List.getElem?_append_left (show k < ys.length by omega)]
      · omega

end Go.Proofs.Ybulkcjpq
