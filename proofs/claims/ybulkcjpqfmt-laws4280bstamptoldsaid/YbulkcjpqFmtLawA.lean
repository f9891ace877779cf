import Derived.Test.YbulkcjpqFmtJoinE
import Derived.Deep.CutBlock
namespace Go.Proofs.YbulkcjpqFmt
open Go.ChangeShapes Go.WideShapes Go.ChangeAt Go.RowKit Go.Deep
set_option linter.unusedVariables false
set_option linter.unusedSimpArgs false

/-- The block of a number. -/
def blockOf (n : Nat) : Code → Option Code
  | .block k c => bif Nat.beq k n then some (.block k c) else blockOf n c
  | .loop c => blockOf n c
  | .seq a b => match blockOf n a with
    | some c => some c
    | none => blockOf n b
  | .scope c => blockOf n c
  | .cond _ a b => match blockOf n a with
    | some c => some c
    | none => blockOf n b
  | _ => none
/-- The block of a number in a function's text. -/
def blkIn (f : Func) (n : Nat) : Code := (f.body.bind (blockOf n)).getD .skip

/-- A block of the law's own, that holds f i at place i. -/
def Blk (W : World) (g : Nat) (t : TypeId) (N : Nat) (f : Nat → Value) : Prop := ∃ cs, W.heap[g]? = some (.cells cs t (0, 0)) ∧ ∀ i, i < N → cs[i]? = some (f i)

theorem Blk.cell {W : World} {g : Nat} {t : TypeId} {N : Nat} {f : Nat → Value} (h : Blk W g t N f) {i : Nat} (hi : i < N) : W.cell? ⟨g, i, none⟩ = some (f i) := by
  obtain ⟨cs, hb, hc⟩ := h
  simp [World.cell?, hb, hc i hi]
theorem Blk.free {W : World} {g : Nat} {t : TypeId} {N : Nat} {f : Nat → Value} (h : Blk W g t N f) (i : Nat) : W.frozen? ⟨g, i, none⟩ = false := by
  obtain ⟨cs, hb, hc⟩ := h
  simp [World.frozen?, hb]
theorem Blk.lt {W : World} {g : Nat} {t : TypeId} {N : Nat} {f : Nat → Value} (h : Blk W g t N f) : g < W.heap.size := by
  obtain ⟨cs, hb, hc⟩ := h
  exact lt_of_block hb
theorem cells_set {w : World} {b : Nat} {cs : Array Value} {x : Value} {t : TypeId} (i : Nat) (h : w.heap[b]? = some (.cells cs t (0, 0))) : (w.setCell ⟨b, i, none⟩ x).heap[b]? = some (.cells (cs.setIfInBounds i x) t (0, 0)) := by
  have hlt := lt_of_block h
  have h' : w.heap[b] = .cells cs t (0, 0) := by simpa [Array.getElem?_eq_getElem hlt] using h
  show (w.heap.modify b _)[b]? = _
  rw [Array.getElem?_eq_getElem (by simpa using hlt), Array.getElem_modify_self, h']
  rfl
theorem Blk.set {W : World} {g : Nat} {t : TypeId} {N : Nat} {f : Nat → Value} (h : Blk W g t N f) (j : Nat) (x : Value) : Blk (W.setCell ⟨g, j, none⟩ x) g t N (fun i => if i = j then x else f i) := by
  obtain ⟨cs, hb, hc⟩ := h
  refine ⟨_, cells_set j hb, fun i hi => ?_⟩
  have hci := hc i hi
  have hlt : i < cs.size := (Array.getElem?_eq_some_iff.1 hci).1
  rw [Array.getElem?_setIfInBounds]
  by_cases e : j = i
  · subst e
    rw [if_pos rfl, if_pos hlt]
    simp
  · rw [if_neg e, hci]
    show some (f i) = some (if i = j then x else f i)
    rw [if_neg (fun h : i = j => e h.symm)]
theorem Blk.same {W W' : World} {g : Nat} {t : TypeId} {N : Nat} {f : Nat → Value} (h : Blk W g t N f) (e : W'.heap[g]? = W.heap[g]?) : Blk W' g t N f := by
  obtain ⟨cs, hb, hc⟩ := h
  exact ⟨cs, e.trans hb, hc⟩
theorem Blk.alloc {W : World} {g : Nat} {t : TypeId} {N : Nat} {f : Nat → Value} (h : Blk W g t N f) (o : Obj) : Blk (W.alloc o) g t N f := h.same (Below.heap_alloc _ _ _ h.lt)
theorem Blk.other {W : World} {g : Nat} {t : TypeId} {N : Nat} {f : Nat → Value} (h : Blk W g t N f) {a : Addr} (hne : g ≠ a.block) (x : Value) : Blk (W.setCell a x) g t N f := h.same (Below.heap_setCell _ _ _ _ hne)
theorem Blk.congr {W : World} {g : Nat} {t : TypeId} {N : Nat} {f f' : Nat → Value} (h : Blk W g t N f) (e : ∀ i, i < N → f i = f' i) : Blk W g t N f' := by
  obtain ⟨cs, hb, hc⟩ := h
  exact ⟨cs, hb, fun i hi => by rw [hc i hi, e i hi]⟩
theorem Blk.notRow {W : World} {g : Nat} {t : TypeId} {N : Nat} {f : Nat → Value} (h : Blk W g t N f) {base size n : Nat} {e : TypeId} {v : Value} {xs : List Value} (hte : t ≠ e) (hr : W.ownsRow base e size v n xs) : some g ≠ v.ownBlock := by
  obtain ⟨cs, hb, hc⟩ := h
  exact not_row hb hte hr

/-- Below B the block x alone is turned. -/
structure Bar (x B : Nat) (W W' : World) : Prop where
  os : W'.os = W.os
  tape : W'.tape = W.tape
  output : W'.output = W.output
  size : W.heap.size ≤ W'.heap.size
  block : ∀ k, k < B → k ≠ x → W'.heap[k]? = W.heap[k]?
theorem Bar.refl (x B : Nat) (W : World) : Bar x B W W := ⟨rfl, rfl, rfl, Nat.le_refl _, fun _ _ _ => rfl⟩
theorem Bar.alloc {x B : Nat} {W W' : World} (h : Bar x B W W') (hB : B ≤ W'.heap.size) (o : Obj) : Bar x B W (W'.alloc o) :=
  ⟨h.os, h.tape, h.output, by have := h.size; simp; omega, fun k hk hx => (Below.heap_alloc _ _ _ (by omega)).trans (h.block k hk hx)⟩
theorem Bar.setCell {x B : Nat} {W W' : World} (h : Bar x B W W') {a : Addr} (ha : a.block = x ∨ B ≤ a.block) (u : Value) : Bar x B W (W'.setCell a u) :=
  ⟨h.os, h.tape, h.output, by have := h.size; simp [World.setCell]; omega, fun k hk hx => (Below.heap_setCell _ _ _ _ (by rcases ha with e | e <;> omega)).trans (h.block k hk hx)⟩
theorem Bar.grown {x B : Nat} {W W' w3 : World} {row : Option Nat} (h : Bar x B W W') (hg : W'.grownBy w3 row) (hB : B ≤ W'.heap.size) (hr : ∀ k, row = some k → B ≤ k) : Bar x B W w3 :=
  ⟨hg.os.trans h.os, hg.tape.trans h.tape, hg.output.trans h.output, Nat.le_trans h.size hg.size, fun k hk hx => (hg.block k (by omega) (fun e => by have := hr k e.symm; omega)).trans (h.block k hk hx)⟩

/-- The state of the law's innermost building loop. -/
structure Q3 (W : World) (gk : Nat) (Wr : World) (nv cv : Value) (nn nc : List Value) (kcf : Nat → Value) : Prop where
  bar : Bar gk W.heap.size W Wr
  kc : Blk Wr gk 27 72 kcf
  on : Wr.ownsRow W.heap.size 9 1 nv nn.length nn
  oc : Wr.ownsRow W.heap.size 24 1 cv nc.length nc
  lt : gk < W.heap.size

theorem Q3.put {W Wr : World} {gk : Nat} {nv cv : Value} {nn nc : List Value} {kcf : Nat → Value} (h : Q3 W gk Wr nv cv nn nc kcf) (j : Nat) (x : Value) : Q3 W gk (Wr.setCell ⟨gk, j, none⟩ x) nv cv nn nc (fun i => if i = j then x else kcf i) := by
  have hlt := h.lt
  exact ⟨h.bar.setCell (.inl rfl) _, h.kc.set j x, ownsRow_setCell_other h.on (fun e => h.kc.notRow (by decide) h.on e.symm) x, ownsRow_setCell_other h.oc (fun e => h.kc.notRow (by decide) h.oc e.symm) x, hlt⟩

theorem Q3.addN {W Wr w3 : World} {gk : Nat} {nv cv v' u : Value} {nn nc : List Value} {kcf : Nat → Value} {o : Obj} (h : Q3 W gk Wr nv cv nn nc kcf) (hown3 : w3.ownsRow W.heap.size 9 1 v' (nn.length + 1) (nn ++ [u])) (hg : (Wr.alloc o).grownBy w3 nv.ownBlock) : Q3 W gk w3 v' cv (nn ++ [u]) nc kcf := by
  have hlt := h.lt
  have hz := h.bar.size
  refine ⟨(h.bar.alloc hz o).grown hg (by simp; omega) (fun k hk => (h.on.lt k hk).1), h.kc.same ?_, by simpa using hown3, (h.oc.alloc o).kept hg (rows_apart h.oc h.on (by decide)), hlt⟩
  rw [hg.block _ (by have := h.kc.lt; simp; omega) (h.kc.notRow (by decide) h.on)]
  exact Below.heap_alloc _ _ _ h.kc.lt

theorem Q3.addC {W Wr w3 : World} {gk : Nat} {nv cv v' u : Value} {nn nc : List Value} {kcf : Nat → Value} {o : Obj} (h : Q3 W gk Wr nv cv nn nc kcf) (hown3 : w3.ownsRow W.heap.size 24 1 v' (nc.length + 1) (nc ++ [u])) (hg : (Wr.alloc o).grownBy w3 cv.ownBlock) : Q3 W gk w3 nv v' nn (nc ++ [u]) kcf := by
  have hlt := h.lt
  have hz := h.bar.size
  refine ⟨(h.bar.alloc hz o).grown hg (by simp; omega) (fun k hk => (h.oc.lt k hk).1), h.kc.same ?_, (h.on.alloc o).kept hg (rows_apart h.on h.oc (by decide)), by simpa using hown3, hlt⟩
  rw [hg.block _ (by have := h.kc.lt; simp; omega) (h.kc.notRow (by decide) h.oc)]
  exact Below.heap_alloc _ _ _ h.kc.lt

/-- F lists what of c is not nought below q. -/
def PH3 (W : World) (gk base : Nat) (C : Nat → Int) (kc0 : Nat → Value) (q : Nat) (nv cv : Value) (Wr : World) : Prop :=
  ∃ (k : Nat) (F : Nat → Nat) (nn nc : List Value) (kcf : Nat → Value), Q3 W gk Wr nv cv nn nc kcf ∧ nn.length = k ∧ nc.length = k ∧ nn = (List.range k).map (fun t => namV (F t)) ∧ nc = (List.range k).map (fun t => cntV C (F t)) ∧
    Sub F k (fun q' => if q' < q then C q' else 0) ∧ (∀ i, i < k → F i < q) ∧ (∀ i, i < 72 → kcf i = if base ≤ i ∧ i < base + q then .int .u64 (C (i - base)) else kc0 i)

theorem Sub.step0 {F : Nat → Nat} {k q : Nat} {C : Nat → Int} (h : Sub F k (fun q' => if q' < q then C q' else 0)) (h0 : C q = 0) : Sub F k (fun q' => if q' < q + 1 then C q' else 0) := by
  have e : (fun q' => if q' < q + 1 then C q' else 0) = (fun q' => if q' < q then C q' else 0) := by
    funext q'
    by_cases e1 : q' < q
    · rw [if_pos e1, if_pos (by omega)]
    · by_cases e2 : q' = q
      · rw [if_pos (by omega), if_neg e1, e2, h0]
      · rw [if_neg (by omega), if_neg e1]
  rw [e]
  exact h

theorem Sub.step1 {F : Nat → Nat} {k q : Nat} {C : Nat → Int} (h : Sub F k (fun q' => if q' < q then C q' else 0)) (hF : ∀ i, i < k → F i < q) (hq : q < 3) (h0 : C q ≠ 0) :
    Sub (fun t => if t = k then q else F t) (k + 1) (fun q' => if q' < q + 1 then C q' else 0) := by
  have hv : ∀ t, t < k → (if t = k then q else F t) = F t := fun t ht => by rw [if_neg (by omega)]
  have hmono : ∀ i j, i < j → j < k + 1 → (if i = k then q else F i) < (if j = k then q else F j) := fun i j hij hj => by
    rw [hv i (by omega)]
    by_cases e : j = k
    · rw [if_pos e]; exact hF i (by omega)
    · rw [if_neg e]; exact h.mono i j hij (by omega)
  have hlt : ∀ i, i < k + 1 → (if i = k then q else F i) < 3 := fun i hi => by
    by_cases e : i = k
    · rw [if_pos e]; exact hq
    · rw [if_neg e]; exact h.lt i (by omega)
  refine ⟨?_, hlt, fun i hi => ?_, hmono, fun q' hq' hc => ?_⟩
  · have h3 := h.le
    by_cases h4 : k + 1 ≤ 3
    · exact h4
    · obtain rfl : k = 3 := by omega
      have := h.mono 0 1 (by omega) (by omega); have := h.mono 1 2 (by omega) (by omega); have := hF 2 (by omega); omega
  · show (if (if i = k then q else F i) < q + 1 then C (if i = k then q else F i) else 0) ≠ 0
    by_cases e : i = k
    · rw [if_pos e, if_pos (by omega)]; exact h0
    · rw [if_neg e, if_pos (by have := hF i (by omega); omega)]
      have := h.ne i (by omega)
      simp only [if_pos (hF i (by omega))] at this
      exact this
  · by_cases e : q' = q
    · exact ⟨k, by omega, by rw [if_pos rfl, e]⟩
    · by_cases e2 : q' < q
      · obtain ⟨i, hi, ei⟩ := h.all q' hq' (by rw [if_pos e2]; rwa [if_pos (by omega)] at hc)
        exact ⟨i, by omega, by rw [if_neg (by omega)]; exact ei⟩
      · rw [if_neg (by omega)] at hc
        exact absurd rfl hc

/-- A name more, and its count: the lists. -/
theorem names_more {F : Nat → Nat} {k q : Nat} {nn : List Value} (h : nn = (List.range k).map (fun t => namV (F t))) : nn ++ [namV q] = (List.range (k + 1)).map (fun t => namV (if t = k then q else F t)) := by
  rw [List.range_succ, List.map_append, h]
  congr 1
  · exact List.map_congr_left fun t ht => by rw [if_neg (by have := List.mem_range.1 ht; omega)]
  · simp
theorem counts_more {F : Nat → Nat} {C : Nat → Int} {k q : Nat} {nc : List Value} (h : nc = (List.range k).map (fun t => cntV C (F t))) : nc ++ [cntV C q] = (List.range (k + 1)).map (fun t => cntV C (if t = k then q else F t)) := by
  rw [List.range_succ, List.map_append, h]
  congr 1
  · exact List.map_congr_left fun t ht => by rw [if_neg (by have := List.mem_range.1 ht; omega)]
  · simp
theorem kc_more {base q : Nat} {C : Nat → Int} {kc0 kcf : Nat → Value} (h : ∀ i, i < 72 → kcf i = if base ≤ i ∧ i < base + q then .int .u64 (C (i - base)) else kc0 i) :
    ∀ i, i < 72 → (if i = base + q then Value.int .u64 (C q) else kcf i) = if base ≤ i ∧ i < base + (q + 1) then .int .u64 (C (i - base)) else kc0 i := fun i hi => by
  by_cases e : i = base + q
  · rw [if_pos e, if_pos (by omega), e, Nat.add_sub_cancel_left]
  · rw [if_neg e, h i hi]
    by_cases e2 : base ≤ i ∧ i < base + q
    · rw [if_pos e2, if_pos (by omega)]
    · rw [if_neg e2, if_neg (by omega)]

end Go.Proofs.YbulkcjpqFmt
