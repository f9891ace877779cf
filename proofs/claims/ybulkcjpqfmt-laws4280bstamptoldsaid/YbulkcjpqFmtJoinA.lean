import Derived.Test.YbulkcjpqFmtCmp
import Derived.Deep.OwnRows
import Derived.Deep.RegionLaw
import Derived.Deep.RegionHeld3
import Derived.Deep.CutRange
import Derived.Deep.DeepCutAuto
import Derived.Deep.LoopGhost
import Derived.WalkSpells
import Derived.OneCell
import Derived.Lib.JoinLaws
namespace Go.Proofs.YbulkcjpqFmt
open Go.ChangeShapes Go.WideShapes Go.ChangeAt Go.RowKit Go.Deep
set_option linter.unusedVariables false
set_option linter.unusedSimpArgs false

/-- 'append' onto a row of the call's own, as one step of a region that draws: the value comes written out. -/
theorem step_append_own {P : Program} {ops : Array Oper} {o : Oper} {a : Act} {w : World} {K : Act → World → Prop} {Q : Exit → Act → World → Prop} {E : Prop}
    (hg : o.guard = none) (s x : Operand) (t : TypeId) (hop : o.op = Op.call { callee := Callee.builtin Builtin.append, args := #[s, x], argTypes := #[t, t] })
    (base : Nat) (e : TypeId) (i : TypeInfo) (z : Value) (size bytes : Nat) (ht : P.underlying t = some (.slice e)) (hi : P.info? e = some i) (hz : i.zero = some z)
    (hsize : i.size = size) (hby : i.bytes = bytes) (hzs : z.cells.size = size) (hsz : 0 < size)
    (v : Value) (n : Nat) (xs : List Value) (hs : a.eval s = v) (hown : w.ownsRow base e size v n xs)
    (ad : Addr) (m c : Nat) (news : List Value) (hx : a.eval x = .slice (some ad) m c) (hl : news.length = m * size) (hnews : ∀ j u, news[j]? = some u → w.cell? (ad.add j) = some u) (h1 : ∀ u ∈ news, u.oneCell' = true)
    (h63 : n + m ≤ maxLen) (hbytes : (n + m) * bytes ≤ 140737488355328) (hbase : base ≤ w.heap.size) (hm : 0 < m)
    (h : ∀ g cap w', w'.ownsRow base e size (.slice (some ⟨g, 0, none⟩) (n + m) cap) (n + m) (xs ++ news) → w.grownBy w' v.ownBlock → K (a.put o.dst (.slice (some ⟨g, 0, none⟩) (n + m) cap)) w') :
    if Region.wanted o (yielded ops a.tmps) = true then Oper.wp P o a w K Q else E := by
  have hw : Region.wanted o (yielded ops a.tmps) = true := by simp [Region.wanted, hg]
  rw [if_pos hw]
  refine wp_append_own w s x t hop base e i z size bytes ht hi hz hsize hby hzs hsz v n xs hs hown ad m c news hx hl hnews h1 h63 hbytes hbase fun v' w' h2 h3 _ => ?_
  rcases h2.2 with ⟨_, h0⟩ | ⟨g, cap, cur, rfl, _⟩
  · omega
  · exact h g cap w' h2 h3

theorem two_set0 {w : World} {b : Nat} {u v x : Value} {t : TypeId} (h : w.heap[b]? = some (.cells #[u, v] t (0, 0))) : (w.setCell ⟨b, 0, none⟩ x).heap[b]? = some (.cells #[x, v] t (0, 0)) := by
  have hlt := lt_of_block h
  have h' : w.heap[b] = .cells #[u, v] t (0, 0) := by simpa [Array.getElem?_eq_getElem hlt] using h
  show (w.heap.modify b _)[b]? = _
  rw [Array.getElem?_eq_getElem (by simpa using hlt), Array.getElem_modify_self, h']
  rfl
theorem two_set1 {w : World} {b : Nat} {u v x : Value} {t : TypeId} (h : w.heap[b]? = some (.cells #[u, v] t (0, 0))) : (w.setCell ⟨b, 1, none⟩ x).heap[b]? = some (.cells #[u, x] t (0, 0)) := by
  have hlt := lt_of_block h
  have h' : w.heap[b] = .cells #[u, v] t (0, 0) := by simpa [Array.getElem?_eq_getElem hlt] using h
  show (w.heap.modify b _)[b]? = _
  rw [Array.getElem?_eq_getElem (by simpa using hlt), Array.getElem_modify_self, h']
  rfl
theorem two_cell0 {w : World} {b : Nat} {u v : Value} {t : TypeId} (h : w.heap[b]? = some (.cells #[u, v] t (0, 0))) : w.cell? ⟨b, 0, none⟩ = some u := by simp [World.cell?, h]
theorem two_cell1 {w : World} {b : Nat} {u v : Value} {t : TypeId} (h : w.heap[b]? = some (.cells #[u, v] t (0, 0))) : w.cell? ⟨b, 1, none⟩ = some v := by simp [World.cell?, h]
theorem two_free {w : World} {b : Nat} {u v : Value} {t : TypeId} (h : w.heap[b]? = some (.cells #[u, v] t (0, 0))) (i : Nat) : w.frozen? ⟨b, i, none⟩ = false := by simp [World.frozen?, h]

theorem info24 : (Ybaf.prog.info? 24).map (fun i => (i.zero, i.size, i.bytes)) = some (some (.int .u64 0), 1, 8) := by kernel_rfl
theorem info9 : (Ybaf.prog.info? 9).map (fun i => (i.zero, i.size, i.bytes)) = some (some (.string ⟨#[]⟩), 1, 16) := by kernel_rfl

theorem Hid.intro {p : Prop} (h : p) : Hid p := h

def cntV (c : Nat → Int) (q : Nat) : Value := .int .u64 (c q)
def namV (q : Nat) : Value := .string (nameB q)

/-- The state of Join's walk. -/
structure JS (w : World) (sn sc tn tc : Value) (wc : World) (nv cv : Value) (nn nc : List Value) : Prop where
  bel : Below w.heap.size w wc
  hs : wc.heap[w.heap.size]? = some (.cells #[sn, sc] 37 (0, 0))
  ht : wc.heap[w.heap.size + 1]? = some (.cells #[tn, tc] 37 (0, 0))
  hr : wc.heap[w.heap.size + 1 + 1]? = some (.cells #[.slice none 0 0, .slice none 0 0] 37 (0, 0))
  hj : wc.heap[w.heap.size + 1 + 1 + 1 + 1]? = some (.cells #[nv, cv] 37 (0, 0))
  on : wc.ownsRow w.heap.size 9 1 nv nn.length nn
  oc : wc.ownsRow w.heap.size 24 1 cv nc.length nc
  size : w.heap.size + 5 ≤ wc.heap.size


theorem mk24 (k : Nat) (hk : k ≤ 1000) (w : World) : (Instr.makeSlice 34 (.int .i64 0) (.int .i64 (k : Int))).run Ybaf.prog w = .ok (.slice (some ⟨w.heap.size, 0, none⟩) 0 k) (w.alloc (.cells (madeCells #[.int .u64 0] k) 24)) :=
  run_make_room (P := Ybaf.prog) 34 24 (.int .u64 0) 8 Ybaf.underlying34 info24 rfl .i64 .i64 k (by omega) (by omega) w
theorem mk9 (k : Nat) (hk : k ≤ 1000) (w : World) : (Instr.makeSlice 33 (.int .i64 0) (.int .i64 (k : Int))).run Ybaf.prog w = .ok (.slice (some ⟨w.heap.size, 0, none⟩) 0 k) (w.alloc (.cells (madeCells #[.string ⟨#[]⟩] k) 9)) :=
  run_make_room (P := Ybaf.prog) 33 9 (.string ⟨#[]⟩) 16 Ybaf.underlying33 info9 rfl .i64 .i64 k (by omega) (by omega) w

/-- A block of another type is no row of the call's own. -/
theorem not_row {w : World} {b base size n : Nat} {c : Array Value} {t e : TypeId} {v : Value} {xs : List Value} (h : w.heap[b]? = some (.cells c t (0, 0))) (hte : t ≠ e) (hr : w.ownsRow base e size v n xs) : some b ≠ v.ownBlock := by
  intro hb
  rcases hr.2 with ⟨rfl, _⟩ | ⟨g, cap, cur, rfl, _, hg, _⟩
  · simp [Value.ownBlock] at hb
  · simp [Value.ownBlock] at hb
    subst hb
    rw [h] at hg
    simp at hg
    exact hte hg.2

/-- Two rows of unlike types share no block. -/
theorem rows_apart {w : World} {b1 b2 s1 s2 n1 n2 : Nat} {e1 e2 : TypeId} {v1 v2 : Value} {x1 x2 : List Value} (h1 : w.ownsRow b1 e1 s1 v1 n1 x1) (h2 : w.ownsRow b2 e2 s2 v2 n2 x2) (hte : e1 ≠ e2) : v1.ownBlock = none ∨ v1.ownBlock ≠ v2.ownBlock := by
  rcases h1.2 with ⟨rfl, _⟩ | ⟨g, cap, cur, rfl, _, hg, _⟩
  · exact .inl rfl
  · exact .inr (not_row hg hte h2)

theorem JS.afterC {w wc w3 : World} {sn sc tn tc nv cv : Value} {nn nc : List Value} {o : Obj} (h : JS w sn sc tn tc wc nv cv nn nc) (hg : (wc.alloc o).grownBy w3 cv.ownBlock) :
    w3.heap[w.heap.size + 1 + 1 + 1 + 1]? = some (.cells #[nv, cv] 37 (0, 0)) := by
  have := h.size
  rw [hg.block _ (by simp; omega) (not_row h.hj (by decide) h.oc)]
  exact (Below.heap_alloc _ _ _ (by omega)).trans h.hj

theorem JS.addC {w wc w3 : World} {sn sc tn tc nv cv v' u : Value} {nn nc : List Value} {o : Obj} (h : JS w sn sc tn tc wc nv cv nn nc) (hown3 : w3.ownsRow w.heap.size 24 1 v' (nc.length + 1) (nc ++ [u])) (hg : (wc.alloc o).grownBy w3 cv.ownBlock) :
    JS w sn sc tn tc (w3.setCell ⟨w.heap.size + 1 + 1 + 1 + 1, 1, none⟩ v') nv v' nn (nc ++ [u]) := by
  have hz := h.size
  have old : ∀ (k : Nat) (cs : Array Value), wc.heap[k]? = some (Obj.cells cs 37 (0, 0)) → w3.heap[k]? = some (Obj.cells cs 37 (0, 0)) := fun k cs hk => by
    rw [hg.block _ (by have := lt_of_block hk; simp; omega) (not_row hk (by decide) h.oc)]
    exact (Below.heap_alloc _ _ _ (lt_of_block hk)).trans hk
  have j3 := old _ _ h.hj
  have ne : ∀ k, k ≠ w.heap.size + 1 + 1 + 1 + 1 → (w3.setCell ⟨w.heap.size + 1 + 1 + 1 + 1, 1, none⟩ v').heap[k]? = w3.heap[k]? := fun k hk => Below.heap_setCell _ _ _ _ hk
  refine ⟨?_, (ne _ (by omega)).trans (old _ _ h.hs), (ne _ (by omega)).trans (old _ _ h.ht), (ne _ (by omega)).trans (old _ _ h.hr), two_set1 j3, ?_, ?_, ?_⟩
  · refine Below.setCell ?_ (show w.heap.size ≤ w.heap.size + 1 + 1 + 1 + 1 by omega) _
    refine Below.grown (h.bel.alloc (by omega) o) hg (by simp; omega) (fun k hk => (h.oc.lt k hk).1)
  · refine ownsRow_setCell_other ((h.on.alloc o).kept hg (rows_apart h.on h.oc (by decide))) ?_ _
    exact fun e => not_row h.hj (by decide) h.on e.symm
  · have := ownsRow_setCell_other hown3 (a := ⟨w.heap.size + 1 + 1 + 1 + 1, 1, none⟩) (fun e => not_row j3 (by decide) hown3 e.symm) v'
    simpa using this
  · have := hg.size
    simp [World.setCell] at this ⊢
    omega

theorem JS.drewN {w wc : World} {sn sc tn tc nv cv : Value} {nn nc : List Value} (h : JS w sn sc tn tc wc nv cv nn nc) (q : Nat) : JS w sn sc tn tc (wc.drewN q) nv cv nn nc :=
  ⟨below_drewN h.bel q, h.hs, h.ht, h.hr, h.hj, h.on, h.oc, h.size⟩

theorem gr {w wa w3 : World} {row : Option Nat} (h : w.grownBy w3 row) (e1 : wa.os = w.os) (e2 : wa.tape = w.tape) (e3 : wa.output = w.output) (e4 : wa.heap = w.heap) : wa.grownBy w3 row :=
  ⟨h.os.trans e1.symm, h.tape.trans e2.symm, h.output.trans e3.symm, by rw [e4]; exact h.size, fun k hk hr => by rw [e4] at hk ⊢; exact h.block k hk hr⟩

theorem JS.cast {w wc wc' : World} {sn sc tn tc nv cv nv' cv' : Value} {nn nc nn' nc' : List Value} (h : JS w sn sc tn tc wc nv cv nn nc) (e1 : wc = wc') (e2 : nv = nv') (e3 : cv = cv') (e4 : nn = nn') (e5 : nc = nc') : JS w sn sc tn tc wc' nv' cv' nn' nc' := by
  subst e1; subst e2; subst e3; subst e4; subst e5; exact h

theorem JS.drew {w wc : World} {sn sc tn tc nv cv : Value} {nn nc : List Value} (h : JS w sn sc tn tc wc nv cv nn nc) : JS w sn sc tn tc wc.drew nv cv nn nc :=
  ⟨h.bel.drew, h.hs, h.ht, h.hr, h.hj, h.on, h.oc, h.size⟩

theorem news_one (w : World) (u : Value) (e : TypeId) : ∀ j x, [u][j]? = some x → (w.alloc (.cells #[u] e)).drew.cell? ((⟨w.heap.size, 0, none⟩ : Addr).add j) = some x := by
  intro j x hj
  match j, hj with
  | 0, hj =>
    simp at hj
    subst hj
    show (w.alloc (.cells #[u] e)).cell? ⟨w.heap.size, 0, none⟩ = _
    rw [World.cell?, heap_alloc_new]
    rfl


theorem JS.addN {w wc w3 : World} {sn sc tn tc nv cv v' : Value} {nn nc ns : List Value} {o : Obj} {k : Nat} (h : JS w sn sc tn tc wc nv cv nn nc) {row : Option Nat} (hrow : ∀ k, row = some k → w.heap.size ≤ k ∧ (row = nv.ownBlock ∨ wc.heap.size ≤ k)) (hk : k = ns.length) (hown3 : w3.ownsRow w.heap.size 9 1 v' k ns) (hg : (wc.alloc o).grownBy w3 row) :
    JS w sn sc tn tc (w3.setCell ⟨w.heap.size + 1 + 1 + 1 + 1, 0, none⟩ v') v' cv ns nc := by
  subst hk
  have hz := h.size
  have nr : ∀ (k : Nat) (cs : Array Value) (t : TypeId), t ≠ 9 → wc.heap[k]? = some (Obj.cells cs t (0, 0)) → some k ≠ row := fun k cs t ht hk e => by
    rcases (hrow k e.symm).2 with h1 | h1
    · exact not_row hk ht h.on (e.trans h1)
    · have := lt_of_block hk; omega
  have old : ∀ (k : Nat) (cs : Array Value), wc.heap[k]? = some (Obj.cells cs 37 (0, 0)) → w3.heap[k]? = some (Obj.cells cs 37 (0, 0)) := fun k cs hk => by
    rw [hg.block _ (by have := lt_of_block hk; simp; omega) (nr k cs 37 (by decide) hk)]
    exact (Below.heap_alloc _ _ _ (lt_of_block hk)).trans hk
  have j3 := old _ _ h.hj
  have ne : ∀ k, k ≠ w.heap.size + 1 + 1 + 1 + 1 → (w3.setCell ⟨w.heap.size + 1 + 1 + 1 + 1, 0, none⟩ v').heap[k]? = w3.heap[k]? := fun k hk => Below.heap_setCell _ _ _ _ hk
  refine ⟨?_, (ne _ (by omega)).trans (old _ _ h.hs), (ne _ (by omega)).trans (old _ _ h.ht), (ne _ (by omega)).trans (old _ _ h.hr), two_set0 j3, ?_, ?_, ?_⟩
  · refine Below.setCell ?_ (show w.heap.size ≤ w.heap.size + 1 + 1 + 1 + 1 by omega) _
    exact Below.grown (h.bel.alloc (by omega) o) hg (by simp; omega) (fun k hk => (hrow k hk).1)
  · exact ownsRow_setCell_other hown3 (a := ⟨w.heap.size + 1 + 1 + 1 + 1, 0, none⟩) (fun e => not_row j3 (by decide) hown3 e.symm) v'
  · refine ownsRow_setCell_other ((h.oc.alloc o).kept hg ?_) ?_ _
    · rcases h.oc.2 with ⟨hv, _⟩ | ⟨g, cap, cur, hv, _, hg', _⟩
      · exact .inl (by rw [hv]; rfl)
      · exact .inr (by rw [hv]; exact nr g cur 24 (by decide) hg')
    · exact fun e => not_row h.hj (by decide) h.oc e.symm
  · have := hg.size
    simp [World.setCell] at this ⊢
    omega

theorem JS.afterN {w wc w3 : World} {sn sc tn tc nv cv : Value} {nn nc : List Value} {o : Obj} (h : JS w sn sc tn tc wc nv cv nn nc) {row : Option Nat} (hrow : ∀ k, row = some k → w.heap.size ≤ k ∧ (row = nv.ownBlock ∨ wc.heap.size ≤ k)) (hg : (wc.alloc o).grownBy w3 row) :
    w3.heap[w.heap.size + 1 + 1 + 1 + 1]? = some (.cells #[nv, cv] 37 (0, 0)) := by
  have hz := h.size
  have hlt := lt_of_block h.hj
  rw [hg.block _ (by simp; omega) (fun e => by
    rcases (hrow _ e.symm).2 with h1 | h1
    · exact not_row h.hj (by decide) h.on (e.trans h1)
    · omega)]
  exact (Below.heap_alloc _ _ _ (by omega)).trans h.hj

/-- What lies below Join's own counts reads as it did. -/
def Lo (w wc w3 : World) : Prop := ∀ (ad : Addr) (u : Value), ad.block ≤ w.heap.size + 1 → wc.cell? ad = some u → w3.cell? ad = some u

theorem Lo.set {w wc w3 : World} (h : Lo w wc w3) (k : Nat) (v : Value) : Lo w wc (w3.setCell ⟨w.heap.size + 1 + 1 + 1 + 1, k, none⟩ v) := fun ad u hb hc => by
  rw [World.cell?_of_block (Below.heap_setCell _ _ _ _ (show ad.block ≠ w.heap.size + 1 + 1 + 1 + 1 by omega))]
  exact h ad u hb hc

theorem JS.lo {w wc w3 : World} {sn sc tn tc nv cv : Value} {nn nc : List Value} {o : Obj} (h : JS w sn sc tn tc wc nv cv nn nc) {row : Option Nat} (hrow : ∀ k, row = some k → w.heap.size ≤ k ∧ (row = nv.ownBlock ∨ row = cv.ownBlock ∨ wc.heap.size ≤ k)) (hg : (wc.alloc o).grownBy w3 row) : Lo w wc w3 := fun ad u hb hc => by
  have hz := h.size
  have hlt := block_lt_of_cell hc
  rw [World.cell?_of_block (hg.block ad.block (by simp; omega) (fun e => ?_))]
  · exact Lib.cell?_alloc_some o hc
  · have hlo := (hrow _ e.symm).1
    have h2 : ad.block = w.heap.size ∨ ad.block = w.heap.size + 1 := by omega
    have hx : ∃ cs, wc.heap[ad.block]? = some (Obj.cells cs 37 (0, 0)) := by
      rcases h2 with h2 | h2
      · exact ⟨_, by rw [h2]; exact h.hs⟩
      · exact ⟨_, by rw [h2]; exact h.ht⟩
    obtain ⟨cs, hcs⟩ := hx
    rcases (hrow _ e.symm).2 with h1 | h1 | h1
    · exact not_row hcs (by decide) h.on (e.trans h1)
    · exact not_row hcs (by decide) h.oc (e.trans h1)
    · omega

theorem k1 (w : World) {W W' : World} {a1 : Addr} {u1 : Value} (h : W.cell? a1 = some u1) (b1 : a1.block ≤ w.heap.size + 1) (hL : Lo w W W') : W'.cell? a1 = some u1 := hL _ _ b1 h

/-- A count more: as a step of a region. -/
theorem step_cnt {w wc W : World} {sn sc tn tc nv cv u : Value} {nn nc : List Value} {ops : Array Oper} {o : Oper} {a : Act} {K : Act → World → Prop} {Q : Exit → Act → World → Prop} {E : Prop}
    (hg : o.guard = none) (s x : Operand) (hop : o.op = Op.call { callee := Callee.builtin Builtin.append, args := #[s, x], argTypes := #[34, 34] })
    (h : JS w sn sc tn tc wc nv cv nn nc) (hs : a.eval s = cv) (hx : a.eval x = .slice (some ⟨wc.heap.size, 0, none⟩) 1 1) (hu : u.oneCell' = true) (hlen : nc.length ≤ 100)
    (e1 : W.os = wc.os) (e2 : W.tape = wc.tape) (e3 : W.output = wc.output) (e4 : W.heap = (wc.alloc (.cells #[u] 24)).heap)
    (hK : ∀ g cap w3, JS w sn sc tn tc (w3.setCell ⟨w.heap.size + 1 + 1 + 1 + 1, 1, none⟩ (.slice (some ⟨g, 0, none⟩) (nc.length + 1) cap)) nv (.slice (some ⟨g, 0, none⟩) (nc.length + 1) cap) nn (nc ++ [u]) →
      w3.cell? ⟨w.heap.size + 1 + 1 + 1 + 1, 1, none⟩ = some cv → w3.frozen? ⟨w.heap.size + 1 + 1 + 1 + 1, 1, none⟩ = false → Lo w wc w3 → K (a.put o.dst (.slice (some ⟨g, 0, none⟩) (nc.length + 1) cap)) w3) :
    if Region.wanted o (yielded ops a.tmps) = true then Oper.wp Ybaf.prog o a W K Q else E := by
  obtain ⟨i24, hi24, hz0, hz1, hz2⟩ := info_parts info24
  have hz := h.size
  refine step_append_own hg s x 34 hop w.heap.size 24 i24 (.int .u64 0) 1 8 Ybaf.underlying34 hi24 hz0 hz1 hz2 rfl (by decide) cv nc.length nc hs ?_ ⟨wc.heap.size, 0, none⟩ 1 1 [u] hx rfl ?_ (by simpa using hu) (by unfold maxLen; omega) (by omega) (by rw [e4]; simp; omega) (by omega) ?_
  · have := h.oc.alloc (.cells #[u] 24)
    unfold World.ownsRow at this ⊢
    rw [e4]
    exact this
  · intro j y hj
    have := news_one wc u 24 j y hj
    rw [← this]
    simp only [World.cell?, e4]
    rfl
  · intro g cap w3 ho hgr
    have hgr' : (wc.alloc (.cells #[u] 24)).grownBy w3 cv.ownBlock := gr hgr e1.symm e2.symm e3.symm e4.symm
    have hb3 := h.afterC hgr'
    exact hK g cap w3 (h.addC ho hgr') (two_cell1 hb3) (two_free hb3 1) (h.lo (fun k hk => ⟨(h.oc.lt k hk).1, .inr (.inl rfl)⟩) hgr')

/-- A name more. -/
theorem step_nam {w wc W : World} {sn sc tn tc nv cv u : Value} {nn nc : List Value} {ops : Array Oper} {o : Oper} {a : Act} {K : Act → World → Prop} {Q : Exit → Act → World → Prop} {E : Prop}
    (hg : o.guard = none) (s x : Operand) (hop : o.op = Op.call { callee := Callee.builtin Builtin.append, args := #[s, x], argTypes := #[33, 33] })
    (h : JS w sn sc tn tc wc nv cv nn nc) (hs : a.eval s = nv) (hx : a.eval x = .slice (some ⟨wc.heap.size, 0, none⟩) 1 1) (hu : u.oneCell' = true) (hlen : nn.length ≤ 100)
    (e1 : W.os = wc.os) (e2 : W.tape = wc.tape) (e3 : W.output = wc.output) (e4 : W.heap = (wc.alloc (.cells #[u] 9)).heap)
    (hK : ∀ g cap w3, JS w sn sc tn tc (w3.setCell ⟨w.heap.size + 1 + 1 + 1 + 1, 0, none⟩ (.slice (some ⟨g, 0, none⟩) (nn.length + 1) cap)) (.slice (some ⟨g, 0, none⟩) (nn.length + 1) cap) cv (nn ++ [u]) nc →
      w3.cell? ⟨w.heap.size + 1 + 1 + 1 + 1, 0, none⟩ = some nv → w3.frozen? ⟨w.heap.size + 1 + 1 + 1 + 1, 0, none⟩ = false → Lo w wc w3 → K (a.put o.dst (.slice (some ⟨g, 0, none⟩) (nn.length + 1) cap)) w3) :
    if Region.wanted o (yielded ops a.tmps) = true then Oper.wp Ybaf.prog o a W K Q else E := by
  obtain ⟨i9, hi9, hz0, hz1, hz2⟩ := info_parts info9
  have hz := h.size
  refine step_append_own hg s x 33 hop w.heap.size 9 i9 (.string ⟨#[]⟩) 1 16 Ybaf.underlying33 hi9 hz0 hz1 hz2 rfl (by decide) nv nn.length nn hs ?_ ⟨wc.heap.size, 0, none⟩ 1 1 [u] hx rfl ?_ (by simpa using hu) (by unfold maxLen; omega) (by omega) (by rw [e4]; simp; omega) (by omega) ?_
  · have := h.on.alloc (.cells #[u] 9)
    unfold World.ownsRow at this ⊢
    rw [e4]
    exact this
  · intro j y hj
    have := news_one wc u 9 j y hj
    rw [← this]
    simp only [World.cell?, e4]
    rfl
  · intro g cap w3 ho hgr
    have hgr' : (wc.alloc (.cells #[u] 9)).grownBy w3 nv.ownBlock := gr hgr e1.symm e2.symm e3.symm e4.symm
    have hrow : ∀ k, nv.ownBlock = some k → w.heap.size ≤ k ∧ (nv.ownBlock = nv.ownBlock ∨ wc.heap.size ≤ k) := fun k hk => ⟨(h.on.lt k hk).1, .inl rfl⟩
    have hb3 := h.afterN hrow hgr'
    exact hK g cap w3 (h.addN hrow (by simp) ho hgr') (two_cell0 hb3) (two_free hb3 0) (h.lo (fun k hk => ⟨(h.on.lt k hk).1, .inl rfl⟩) hgr')

/-- The names' row made, and its first names laid in. -/
theorem step_new {w wc W : World} {sn sc tn tc cv : Value} {nc ns : List Value} {kc m mc : Nat} {ad : Addr} {ops : Array Oper} {o : Oper} {a : Act} {K : Act → World → Prop} {Q : Exit → Act → World → Prop} {E : Prop}
    (hg : o.guard = none) (s x : Operand) (hop : o.op = Op.call { callee := Callee.builtin Builtin.append, args := #[s, x], argTypes := #[33, 33] })
    (h : JS w sn sc tn tc wc (.slice none 0 0) cv [] nc) (hs : a.eval s = .slice (some ⟨wc.heap.size, 0, none⟩) 0 kc) (hkc : kc ≤ 100) (hx : a.eval x = .slice (some ad) m mc) (hm : 0 < m) (hm2 : m ≤ 100) (hl : ns.length = m)
    (hns : ∀ j u, ns[j]? = some u → wc.cell? (ad.add j) = some u) (hu : ∀ u ∈ ns, u.oneCell' = true)
    (e1 : W.os = wc.os) (e2 : W.tape = wc.tape) (e3 : W.output = wc.output) (e4 : W.heap = (wc.alloc (.cells (madeCells #[.string ⟨#[]⟩] kc) 9)).heap)
    (hK : ∀ g cap w3, JS w sn sc tn tc (w3.setCell ⟨w.heap.size + 1 + 1 + 1 + 1, 0, none⟩ (.slice (some ⟨g, 0, none⟩) (0 + m) cap)) (.slice (some ⟨g, 0, none⟩) (0 + m) cap) cv ns nc →
      w3.cell? ⟨w.heap.size + 1 + 1 + 1 + 1, 0, none⟩ = some (.slice none 0 0) → w3.frozen? ⟨w.heap.size + 1 + 1 + 1 + 1, 0, none⟩ = false → Lo w wc w3 → K (a.put o.dst (.slice (some ⟨g, 0, none⟩) (0 + m) cap)) w3) :
    if Region.wanted o (yielded ops a.tmps) = true then Oper.wp Ybaf.prog o a W K Q else E := by
  obtain ⟨i9, hi9, hz0, hz1, hz2⟩ := info_parts info9
  have hz := h.size
  have hmade : (wc.alloc (.cells (madeCells #[.string ⟨#[]⟩] kc) 9)).ownsRow w.heap.size 9 1 (.slice (some ⟨wc.heap.size, 0, none⟩) 0 kc) 0 [] := World.ownsRow_made wc _ kc (by omega) (by unfold maxLen; omega) (by simp [madeCells])
  refine step_append_own hg s x 33 hop w.heap.size 9 i9 (.string ⟨#[]⟩) 1 16 Ybaf.underlying33 hi9 hz0 hz1 hz2 rfl (by decide) (.slice (some ⟨wc.heap.size, 0, none⟩) 0 kc) 0 [] hs ?_ ad m mc ns hx (by rw [hl, Nat.mul_one]) ?_ hu (by unfold maxLen; omega) (by omega) (by rw [e4]; simp; omega) hm ?_
  · unfold World.ownsRow at hmade ⊢
    rw [e4]
    exact hmade
  · intro j y hj
    have := Lib.cell?_alloc_some (Obj.cells (madeCells #[.string ⟨#[]⟩] kc) 9) (hns j y hj)
    rw [← this]
    simp only [World.cell?, e4]
  · intro g cap w3 ho hgr
    have hgr' : (wc.alloc (.cells (madeCells #[.string ⟨#[]⟩] kc) 9)).grownBy w3 (some wc.heap.size) := gr hgr e1.symm e2.symm e3.symm e4.symm
    have hrow : ∀ k, some wc.heap.size = some k → w.heap.size ≤ k ∧ (some wc.heap.size = (Value.slice none 0 0).ownBlock ∨ wc.heap.size ≤ k) := fun k hk => by
      simp at hk
      exact ⟨by omega, .inr (by omega)⟩
    have hb3 := h.afterN hrow hgr'
    refine hK g cap w3 (h.addN hrow (k := 0 + m) (by omega) (by simpa using ho) hgr') (two_cell0 hb3) (two_free hb3 0) (h.lo (fun k hk => ⟨(hrow k hk).1, .inr (.inr (by simp at hk; omega))⟩) hgr')


/-- What the walk has joined, as a stamp. -/
theorem JS.finish {w wr W : World} {sn sc tn tc nv : Value} {nn nc : List Value} {gc k cap : Nat} (h : JS w sn sc tn tc wr nv (.slice (some ⟨gc, 0, none⟩) k cap) nn nc) (hk : nc.length = k) {nvF : Value} {G : Nat → Nat} {c' : Nat → Int} (hsub : Sub G k c')
    (hnc : nc = (List.range k).map (fun t => cntV c' (G t))) (hnames : SliceIs wr nvF k (fun t => .string (nameB (G t))))
    (hW : ∀ (ad : Addr) (u : Value), ad.block ≠ w.heap.size + 1 + 1 + 1 + 1 → ad.block ≠ w.heap.size + 1 + 1 → wr.cell? ad = some u → W.cell? ad = some u) : StampIs W (.agg #[nvF, .slice (some ⟨gc, 0, none⟩) k cap]) c' := by
  refine ⟨nvF, _, k, G, rfl, hsub, ?_, ?_⟩
  · obtain ⟨a, c, rfl, hc⟩ := hnames
    refine ⟨a, c, rfl, fun hp => ?_⟩
    obtain ⟨g, o, rfl, hi⟩ := hc hp
    refine ⟨g, o, rfl, fun i hlt => hW _ _ ?_ ?_ (hi i hlt)⟩
    · intro e
      have e : g = w.heap.size + 1 + 1 + 1 + 1 := e
      subst e
      have h1 := hi i hlt
      simp only [World.cell?, h.hj] at h1
      have hs : ∃ a n c, nv = .slice a n c := by
        rcases h.on.2 with ⟨hv, _⟩ | ⟨g, cap, cur, hv, _⟩
        · exact ⟨_, _, _, hv⟩
        · exact ⟨_, _, _, hv⟩
      obtain ⟨a, n, c, rfl⟩ := hs
      generalize o + i = z at h1
      match z with
      | 0 => simp at h1
      | 1 => simp at h1
      | z + 2 => simp at h1
    · intro e
      have e : g = w.heap.size + 1 + 1 := e
      subst e
      have h1 := hi i hlt
      simp only [World.cell?, h.hr] at h1
      generalize o + i = z at h1
      match z with
      | 0 => simp at h1
      | 1 => simp at h1
      | z + 2 => simp at h1
  · refine ⟨_, _, rfl, fun hp => ⟨gc, 0, rfl, fun i hlt => ?_⟩⟩
    rw [Nat.zero_add]
    have hoc := h.oc
    rw [hk] at hoc
    refine hW _ _ (fun e => not_row h.hj (by decide) hoc ?_) (fun e => not_row h.hr (by decide) hoc ?_) ?_
    · show some _ = some gc
      rw [← e]
    · show some _ = some gc
      rw [← e]
    · rw [hoc.cellAt i (by omega), hnc]
      simp [hlt, cntV]

theorem JS.form {w wr : World} {sn sc tn tc nv cv : Value} {nn nc : List Value} (h : JS w sn sc tn tc wr nv cv nn nc) (hk : 0 < nc.length) : ∃ gc cap, cv = .slice (some ⟨gc, 0, none⟩) nc.length cap := by
  rcases h.oc.2 with ⟨_, h0⟩ | ⟨g, cap, cur, rfl, _⟩
  · omega
  · exact ⟨g, cap, rfl⟩

theorem SliceIs.of_below {w wr : World} {v : Value} {k : Nat} {f : Nat → Value} (h : SliceIs w v k f) (hB : Below w.heap.size w wr) : SliceIs wr v k f := h.mono (below_cells hB)

theorem set_far {w : World} {a : Addr} {v : Value} {ad : Addr} {u : Value} (hne : ad.block ≠ a.block) (h : w.cell? ad = some u) : (w.setCell a v).cell? ad = some u := by
  rw [World.cell?_of_block (Below.heap_setCell _ _ _ _ hne)]
  exact h

theorem JS.start (w : World) (sn sc tn tc : Value) (q k : Nat) (hk : k ≤ 100) :
    JS w sn sc tn tc ((((((w.alloc (.cells #[sn, sc] 37)).alloc (.cells #[tn, tc] 37)).alloc (.cells #[.slice none 0 0, .slice none 0 0] 37)).drewN q).alloc (.cells (madeCells #[.int .u64 0] k) 24)).alloc (.cells #[.slice none 0 0, .slice (some ⟨w.heap.size + 1 + 1 + 1, 0, none⟩) 0 k] 37))
      (.slice none 0 0) (.slice (some ⟨w.heap.size + 1 + 1 + 1, 0, none⟩) 0 k) [] [] := by
  refine ⟨?_, ?_, ?_, ?_, ?_, World.ownsRow_nil _ _ _ _, ?_, by simp⟩
  · refine Below.alloc (Below.alloc (below_drewN (Below.alloc (Below.alloc (Below.alloc (Below.refl _ _) (Nat.le_refl _) _) (by simp) _) (by simp; omega) _) q) (by simp; omega) _) (by simp; omega) _
  · rw [Below.heap_alloc _ _ _ (by simp <;> omega), Below.heap_alloc _ _ _ (by simp <;> omega)]
    show (((w.alloc _).alloc _).alloc _).heap[w.heap.size]? = _
    rw [Below.heap_alloc _ _ _ (by simp <;> omega), Below.heap_alloc _ _ _ (by simp)]
    exact heap_alloc_new w _
  · rw [Below.heap_alloc _ _ _ (by simp <;> omega), Below.heap_alloc _ _ _ (by simp <;> omega)]
    show (((w.alloc _).alloc _).alloc _).heap[w.heap.size + 1]? = _
    rw [Below.heap_alloc _ _ _ (by simp)]
    have := heap_alloc_new (w.alloc (.cells #[sn, sc] 37)) (.cells #[tn, tc] 37)
    simpa using this
  · rw [Below.heap_alloc _ _ _ (by simp <;> omega), Below.heap_alloc _ _ _ (by simp)]
    show (((w.alloc _).alloc _).alloc _).heap[w.heap.size + 1 + 1]? = _
    have := heap_alloc_new ((w.alloc (.cells #[sn, sc] 37)).alloc (.cells #[tn, tc] 37)) (.cells #[.slice none 0 0, .slice none 0 0] 37)
    simpa using this
  · have := heap_alloc_new (((((w.alloc (.cells #[sn, sc] 37)).alloc (.cells #[tn, tc] 37)).alloc (.cells #[.slice none 0 0, .slice none 0 0] 37)).drewN q).alloc (.cells (madeCells #[.int .u64 0] k) 24)) (.cells #[.slice none 0 0, .slice (some ⟨w.heap.size + 1 + 1 + 1, 0, none⟩) 0 k] 37)
    simpa using this
  · have := World.ownsRow_made (base := w.heap.size) (e := 24) (size := 1) ((((w.alloc (.cells #[sn, sc] 37)).alloc (.cells #[tn, tc] 37)).alloc (.cells #[.slice none 0 0, .slice none 0 0] 37)).drewN q) (madeCells #[.int .u64 0] k) k (by simp; omega) (by unfold maxLen; omega) (by simp [madeCells])
    have h2 := this.alloc (.cells #[.slice none 0 0, .slice (some ⟨w.heap.size + 1 + 1 + 1, 0, none⟩) 0 k] 37)
    simpa using h2

theorem Sub.has {F : Nat → Nat} {n p a : Nat} {c : Nat → Int} {x : Int} (h : Sub F n c) (ha : a < n) (hFa : F a = p) (hx : 1 ≤ x) : Sub F n (fun q => if q = p then max (c p) x else c q) := by
  refine ⟨h.le, h.lt, fun i hi => ?_, h.mono, fun q hq hc => ?_⟩
  · show (if F i = p then max (c p) x else c (F i)) ≠ 0
    split
    · omega
    · exact h.ne i hi
  · by_cases hqp : q = p
    · exact ⟨a, ha, hFa.trans hqp.symm⟩
    · rw [if_neg hqp] at hc
      exact h.all q hq hc

/-- The worlds in which Join ends. -/
theorem JS.ends {w wr : World} {sn sc tn tc nv cv : Value} {nn nc : List Value} (h : JS w sn sc tn tc wr nv cv nn nc) (u0 u1 u2 : Value) :
    (∀ (ad : Addr) (u : Value), ad.block ≠ w.heap.size + 1 + 1 + 1 + 1 → ad.block ≠ w.heap.size + 1 + 1 → wr.cell? ad = some u → (((wr.setCell ⟨w.heap.size + 1 + 1 + 1 + 1, 0, none⟩ u0).setCell ⟨w.heap.size + 1 + 1, 0, none⟩ u1).setCell ⟨w.heap.size + 1 + 1, 1, none⟩ u2).cell? ad = some u) ∧
    Below w.heap.size w (((wr.setCell ⟨w.heap.size + 1 + 1 + 1 + 1, 0, none⟩ u0).setCell ⟨w.heap.size + 1 + 1, 0, none⟩ u1).setCell ⟨w.heap.size + 1 + 1, 1, none⟩ u2) :=
  ⟨fun ad u h1 h2 hc => set_far (a := ⟨w.heap.size + 1 + 1, 1, none⟩) h2 (set_far (a := ⟨w.heap.size + 1 + 1, 0, none⟩) h2 (set_far (a := ⟨w.heap.size + 1 + 1 + 1 + 1, 0, none⟩) h1 hc)),
   ((h.bel.setCell (p := ⟨w.heap.size + 1 + 1 + 1 + 1, 0, none⟩) (by simp; omega) _).setCell (p := ⟨w.heap.size + 1 + 1, 0, none⟩) (by simp; omega) _).setCell (p := ⟨w.heap.size + 1 + 1, 1, none⟩) (by simp; omega) _⟩

theorem JS.ends2 {w wr : World} {sn sc tn tc nv cv : Value} {nn nc : List Value} (h : JS w sn sc tn tc wr nv cv nn nc) (u1 u2 : Value) :
    (∀ (ad : Addr) (u : Value), ad.block ≠ w.heap.size + 1 + 1 + 1 + 1 → ad.block ≠ w.heap.size + 1 + 1 → wr.cell? ad = some u → ((wr.setCell ⟨w.heap.size + 1 + 1, 0, none⟩ u1).setCell ⟨w.heap.size + 1 + 1, 1, none⟩ u2).cell? ad = some u) ∧
    Below w.heap.size w ((wr.setCell ⟨w.heap.size + 1 + 1, 0, none⟩ u1).setCell ⟨w.heap.size + 1 + 1, 1, none⟩ u2) :=
  ⟨fun ad u h1 h2 hc => set_far (a := ⟨w.heap.size + 1 + 1, 1, none⟩) h2 (set_far (a := ⟨w.heap.size + 1 + 1, 0, none⟩) h2 hc),
   (h.bel.setCell (p := ⟨w.heap.size + 1 + 1, 0, none⟩) (by simp; omega) _).setCell (p := ⟨w.heap.size + 1 + 1, 1, none⟩) (by simp; omega) _⟩

end Go.Proofs.YbulkcjpqFmt
