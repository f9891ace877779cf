import Derived.WalkKit
import Derived.Below
import Derived.OneCell
import Derived.Deep.OwnRows
import Derived.Deep.RegionLaw
namespace Go.Proofs.Ybulkcjpq
open Go.RowKit Go.Deep

/-! ### What is kept: all old blocks but those of a set -/

structure Kept (S : Nat → Prop) (w w' : World) : Prop where
  os : w'.os = w.os
  tape : w'.tape = w.tape
  output : w'.output = w.output
  size : w.heap.size ≤ w'.heap.size
  block : ∀ k, k < w.heap.size → ¬ S k → w'.heap[k]? = w.heap[k]?

namespace Kept
variable {S T : Nat → Prop} {a b c w : World}
theorem refl (S : Nat → Prop) (w : World) : Kept S w w := ⟨rfl, rfl, rfl, Nat.le_refl _, fun _ _ _ => rfl⟩
theorem trans (h : Kept S a b) (k : Kept S b c) : Kept S a c :=
  ⟨k.os.trans h.os, k.tape.trans h.tape, k.output.trans h.output, Nat.le_trans h.size k.size, fun i hi hs => (k.block i (Nat.lt_of_lt_of_le hi h.size) hs).trans (h.block i hi hs)⟩
theorem alloc (h : Kept S a w) (o : Obj) : Kept S a (w.alloc o) :=
  h.trans ⟨rfl, rfl, rfl, by simp, fun k hk _ => Below.heap_alloc _ _ _ hk⟩
theorem drew (h : Kept S a w) : Kept S a w.drew := ⟨h.os, h.tape, h.output, h.size, h.block⟩
theorem setCell (h : Kept S a w) {p : Addr} (hp : S p.block) (u : Value) : Kept S a (w.setCell p u) :=
  h.trans ⟨rfl, rfl, rfl, by simp [World.setCell], fun k _ hs => Below.heap_setCell _ _ _ _ (fun e => hs (e ▸ hp))⟩
theorem grown {row : Option Nat} (h : Kept S a w) (hg : w.grownBy c row) (hr : ∀ k, row = some k → S k) : Kept S a c :=
  h.trans ⟨hg.os, hg.tape, hg.output, hg.size, fun k hk hs => hg.block k hk (fun e => hs (hr k e.symm))⟩
/-- A larger set; and a set that is larger only among the blocks that were not there. -/
theorem wide (h : Kept S a b) (hST : ∀ k, k < a.heap.size → S k → T k) : Kept T a b :=
  ⟨h.os, h.tape, h.output, h.size, fun k hk hs => h.block k hk (fun s => hs (hST k hk s))⟩
theorem then_ (h : Kept S a b) (k : Kept T b c) (hST : ∀ i, i < a.heap.size → T i → S i) : Kept S a c :=
  ⟨k.os.trans h.os, k.tape.trans h.tape, k.output.trans h.output, Nat.le_trans h.size k.size, fun i hi hs => (k.block i (Nat.lt_of_lt_of_le hi h.size) (fun t => hs (hST i hi t))).trans (h.block i hi hs)⟩
theorem below {B : Nat} (h : Kept S a b) (hB : B ≤ a.heap.size) (hS : ∀ k, k < B → ¬ S k) : Below B a b :=
  ⟨h.os, h.tape, h.output, h.size, fun k hk => h.block k (by omega) (hS k hk)⟩
theorem cell (h : Kept S a b) {p : Addr} {v : Value} (hc : a.cell? p = some v) (hp : ¬ S p.block) : b.cell? p = some v :=
  (World.cell?_of_block (h.block p.block (block_lt_of_cell hc) hp)).trans hc
theorem row {g n : Nat} {t : TypeId} {f : Nat → Value} (h : Kept S a b) (hr : a.rowIs g t n f) (hp : ¬ S g) : b.rowIs g t n f :=
  hr.of_block (h.block g hr.lt hp)
theorem owns {base n : Nat} {e : TypeId} {size : Nat} {v : Value} {xs : List Value} (h : Kept S a b) (ho : a.ownsRow base e size v n xs) (hp : ∀ k, v.ownBlock = some k → ¬ S k) : b.ownsRow base e size v n xs := by
  refine ⟨ho.1, ?_⟩
  rcases ho.2 with hn | ⟨g, cap, cur, rfl, hb, hgg, rest⟩
  · exact .inl hn
  · exact .inr ⟨g, cap, cur, rfl, hb, (h.block g (lt_of_block hgg) (hp g rfl)).trans hgg, rest⟩
end Kept

/-! ### A block of two cells -/
theorem two_set0 {w : World} {b : Nat} {u v x : Value} {t : TypeId} (h : w.heap[b]? = some (.cells #[u, v] t (0, 0))) : (w.setCell ⟨b, 0, none⟩ x).heap[b]? = some (.cells #[x, v] t (0, 0)) := by
  have hlt := lt_of_block h
  have h' : w.heap[b] = .cells #[u, v] t (0, 0) := by simpa [Array.getElem?_eq_getElem hlt] using h
  show (w.heap.modify b _)[b]? = _
  rw [Array.getElem?_eq_getElem (by simpa using hlt), Array.getElem_modify_self, h']
  rfl
theorem two_set1 {w : World} {b : Nat} {u v x : Value} {t : TypeId} (h : w.heap[b]? = some (.cells #[u, v] t (0, 0))) : (w.setCell ⟨b, 1, none⟩ x).heap[b]? = some (.cells #[u, x] t (0, 0)) := by
  have hlt := lt_of_block h
  have h' : w.heap[b] = .cells #[u, v] t (0, 0) := by simpa [Array.getElem?_eq_getElem hlt] using h
  show (w.heap.modify b _)[b]? = _
  rw [Array.getElem?_eq_getElem (by simpa using hlt), Array.getElem_modify_self, h']
  rfl
theorem two_cell0 {w : World} {b : Nat} {u v : Value} {t : TypeId} (h : w.heap[b]? = some (.cells #[u, v] t (0, 0))) : w.cell? ⟨b, 0, none⟩ = some u := by simp [World.cell?, h]
theorem two_cell1 {w : World} {b : Nat} {u v : Value} {t : TypeId} (h : w.heap[b]? = some (.cells #[u, v] t (0, 0))) : w.cell? ⟨b, 1, none⟩ = some v := by simp [World.cell?, h]
theorem two_free {w : World} {b : Nat} {u v : Value} {t : TypeId} (h : w.heap[b]? = some (.cells #[u, v] t (0, 0))) (i : Nat) : w.frozen? ⟨b, i, none⟩ = false := by simp [World.frozen?, h]

/-! ### The list in blocks -/

def blk (g : Nat) : Value := .slice (some ⟨g, 0, none⟩) 4096 4096

/-- The struct lies in block cb; its blocks' slice v is the call's own and holds the blocks gs; place k of the list holds the number f k. -/
structure Mid (w : World) (base cb : Nat) (f : Nat → Int) (n : Nat) (v : Value) (gs : List Nat) : Prop where
  here : w.heap[cb]? = some (.cells #[v, .int .i64 n] 37 (0, 0))
  own : w.ownsRow base 34 1 v gs.length (gs.map blk)
  rows : ∀ j g, gs[j]? = some g → base ≤ g ∧ w.rowIs g 3 4096 (fun i => .int .i64 (f (4096 * j + i)))
  nodup : gs.Nodup
  lo : cb < base
  size : base ≤ w.heap.size

/-- What the list's memory is. -/
def foot (cb : Nat) (v : Value) (gs : List Nat) (k : Nat) : Prop := k = cb ∨ k ∈ gs ∨ v.ownBlock = some k

def Ch (w : World) (base cb : Nat) (f : Nat → Int) (n : Nat) (v : Value) (gs : List Nat) : Prop :=
  Mid w base cb f n v gs ∧ gs.length = (n + 4095) / 4096

variable {w w' : World} {base cb : Nat} {f : Nat → Int} {n : Nat} {v : Value} {gs : List Nat}

theorem Mid.kept {S : Nat → Prop} (h : Mid w base cb f n v gs) (k : Kept S w w') (hS : ∀ i, i < w.heap.size → foot cb v gs i → ¬ S i) : Mid w' base cb f n v gs :=
  ⟨(k.block cb (lt_of_block h.here) (hS cb (lt_of_block h.here) (.inl rfl))).trans h.here,
   k.owns h.own (fun i hi => hS i (h.own.lt i hi).2 (.inr (.inr hi))),
   fun j g hj => ⟨(h.rows j g hj).1, k.row (h.rows j g hj).2 (hS g (h.rows j g hj).2.lt (.inr (.inl (List.mem_of_getElem? hj))))⟩,
   h.nodup, h.lo, Nat.le_trans h.size k.size⟩

theorem Mid.drew (h : Mid w base cb f n v gs) : Mid w.drew base cb f n v gs := ⟨h.here, h.own, h.rows, h.nodup, h.lo, h.size⟩

theorem Mid.blockNe (h : Mid w base cb f n v gs) {g : Nat} (hg : g ∈ gs) : v.ownBlock ≠ some g := by
  obtain ⟨j, hj⟩ := List.getElem?_of_mem hg
  obtain ⟨c, hc, _⟩ := (h.rows j g hj).2
  intro e
  rcases h.own.2 with ⟨rfl, _⟩ | ⟨g', cap, cur, rfl, _, hgg, _⟩
  · simp [Value.ownBlock] at e
  · simp [Value.ownBlock] at e
    subst e
    rw [hc] at hgg
    simp at hgg

theorem Mid.ownNe (h : Mid w base cb f n v gs) : v.ownBlock ≠ some cb := fun e => by
  have := (h.own.lt cb e).1
  have := h.lo
  omega

/-- The blocks' slice is at hand where there is a block. -/
theorem Mid.form (h : Mid w base cb f n v gs) (hg : 0 < gs.length) : ∃ g cap, v = .slice (some ⟨g, 0, none⟩) gs.length cap ∧ base ≤ g := by
  rcases h.own.2 with ⟨_, h0⟩ | ⟨g, cap, cur, rfl, hb, _⟩
  · omega
  · exact ⟨g, cap, rfl, hb⟩

theorem Mid.at {g cap : Nat} (h : Mid w base cb f n (.slice (some ⟨g, 0, none⟩) gs.length cap) gs) {j b : Nat} (hj : gs[j]? = some b) : w.cell? ⟨g, j, none⟩ = some (blk b) := by
  have hl : j < gs.length := (List.getElem?_eq_some_iff.1 hj).1
  rw [h.own.cellAt j (by omega)]
  simp [hj]

/-- A store into the place of the list's end, then the count raised. -/
theorem Mid.put (h : Mid w base cb f n v gs) {b : Nat} (hb : gs[n / 4096]? = some b) (x : Int) :
    Mid ((w.setCell ⟨b, n % 4096, none⟩ (.int .i64 x)).setCell ⟨cb, 1, none⟩ (.int .i64 ((n + 1 : Nat) : Int))) base cb (fun k => if k = n then x else f k) (n + 1) v gs := by
  have hbm : b ∈ gs := List.mem_of_getElem? hb
  have hbb := (h.rows _ b hb).1
  have hlo := h.lo
  have hcb : cb ≠ b := by omega
  refine ⟨?_, ?_, ?_, h.nodup, h.lo, ?_⟩
  · refine two_set1 (v := .int .i64 n) ?_
    rw [Below.heap_setCell _ _ _ _ hcb]
    exact h.here
  · exact ownsRow_setCell_other (ownsRow_setCell_other h.own (h.blockNe hbm) _) h.ownNe _
  · intro j g hj
    obtain ⟨h1, h2⟩ := h.rows j g hj
    refine ⟨h1, ?_⟩
    refine World.rowIs.setOther ?_ (show g ≠ cb by omega) _
    by_cases e : g = b
    · subst e
      have hjn : j = n / 4096 := by
        have l1 : j < gs.length := (List.getElem?_eq_some_iff.1 hj).1
        exact (List.getElem?_inj l1 h.nodup).1 (hj.trans hb.symm)
      refine (h2.set (n % 4096) (.int .i64 x)).congr fun i hi => ?_
      show (if i = n % 4096 then Value.int .i64 x else .int .i64 (f (4096 * j + i))) = .int .i64 (if 4096 * j + i = n then x else f (4096 * j + i))
      by_cases ei : i = n % 4096
      · rw [if_pos ei, if_pos (by omega)]
      · rw [if_neg ei, if_neg (by omega)]
    · refine (World.rowIs.setOther h2 (show g ≠ b from e) _).congr fun i hi => ?_
      show Value.int .i64 (f (4096 * j + i)) = .int .i64 (if 4096 * j + i = n then x else f (4096 * j + i))
      have hjn : j ≠ n / 4096 := fun ej => by subst ej; rw [hb] at hj; exact e (by simpa using hj.symm)
      rw [if_neg (by omega)]
  · simp only [World.size_setCell]
    exact h.size


theorem putKept {b : Nat} (hb : b ∈ gs) (i : Nat) (x m : Value) :
    Kept (fun k => k = cb ∨ k ∈ gs) w ((w.setCell ⟨b, i, none⟩ x).setCell ⟨cb, 1, none⟩ m) :=
  ((Kept.refl _ w).setCell (p := ⟨b, i, none⟩) (.inr hb) _).setCell (p := ⟨cb, 1, none⟩) (.inl rfl) _

def zs4 : Array Value := madeCells #[.int .i64 0] 4096

/-- One block more. -/
theorem Mid.grow {w3 : World} {v' : Value} (h : Mid w base cb f n v gs) (hn : n = 4096 * gs.length)
    (hown : w3.ownsRow base 34 1 v' (gs.length + 1) (gs.map blk ++ [blk w.heap.size]))
    (hg : ((w.alloc (.cells zs4 3)).alloc (.cells #[blk w.heap.size] 34)).grownBy w3 v.ownBlock) :
    Mid (w3.setCell ⟨cb, 0, none⟩ v') base cb (fun k => if n ≤ k then 0 else f k) n v' (gs ++ [w.heap.size]) ∧ Kept (foot cb v gs) w (w3.setCell ⟨cb, 0, none⟩ v') := by
  have hsz := h.size
  have hlo := h.lo
  have hcl := lt_of_block h.here
  have K0 : Kept (fun k => v.ownBlock = some k) w w3 := (((Kept.refl _ w).alloc _).alloc _).grown hg (fun k hk => hk)
  have e1 : w3.heap[cb]? = some (.cells #[v, .int .i64 n] 37 (0, 0)) := (K0.block cb hcl h.ownNe).trans h.here
  have hvne : v'.ownBlock ≠ some cb := fun e => by have := (hown.lt cb e).1; omega
  refine ⟨⟨two_set0 e1, ?_, ?_, ?_, h.lo, ?_⟩, ?_⟩
  · have := ownsRow_setCell_other hown (a := ⟨cb, 0, none⟩) hvne v'
    simpa using this
  · intro j g hj
    by_cases hl : j < gs.length
    · rw [List.getElem?_append_left hl] at hj
      obtain ⟨r1, r2⟩ := h.rows j g hj
      refine ⟨r1, (((K0.row r2 (h.blockNe (List.mem_of_getElem? hj))).setOther (show g ≠ cb by omega) _)).congr fun i hi => ?_⟩
      show Value.int .i64 (f (4096 * j + i)) = .int .i64 (if n ≤ 4096 * j + i then 0 else f (4096 * j + i))
      rw [if_neg (by omega)]
    · rw [List.getElem?_append_right (by omega)] at hj
      have hj0 : j - gs.length = 0 := by
        have := (List.getElem?_eq_some_iff.1 hj).1
        simp at this
        omega
      rw [hj0] at hj
      simp at hj
      subst hj
      have hvb : v.ownBlock ≠ some w.heap.size := fun e => by have := (h.own.lt _ e).2; omega
      have r0 : ((w.alloc (.cells zs4 3)).alloc (.cells #[blk w.heap.size] 34)).rowIs w.heap.size 3 4096 (fun _ => .int .i64 0) := (World.rowIs_made w (.int .i64 0) 4096 3).alloc _
      have r1 : w3.rowIs w.heap.size 3 4096 (fun _ => .int .i64 0) := r0.of_block (hg.block w.heap.size (by simp; omega) (fun e => hvb e.symm))
      refine ⟨hsz, (r1.setOther (show w.heap.size ≠ cb by omega) _).congr fun i hi => ?_⟩
      show Value.int .i64 0 = .int .i64 (if n ≤ 4096 * j + i then 0 else f (4096 * j + i))
      rw [if_pos (by omega)]
  · rw [List.nodup_append]
    refine ⟨h.nodup, by simp, fun a ha b hb => ?_⟩
    simp at hb
    obtain ⟨j, hj⟩ := List.getElem?_of_mem ha
    have := (h.rows j a hj).2.lt
    omega
  · simp only [World.size_setCell]
    exact Nat.le_trans h.size K0.size
  · exact (K0.wide (fun k _ hk => .inr (.inr hk))).setCell (p := ⟨cb, 0, none⟩) (.inl rfl) _

/-- There is room for the next number: what holds behind the test of 'append'. -/
def Room (w0 w : World) (base cb : Nat) (f0 : Nat → Int) (n : Nat) (v0 : Value) (gs0 : List Nat) (f : Nat → Int) (v : Value) (gs : List Nat) : Prop :=
  Mid w base cb f n v gs ∧ gs.length = n / 4096 + 1 ∧ (∀ k, f k = f0 k ∨ (n ≤ k ∧ f k = 0)) ∧ Kept (foot cb v0 gs0) w0 w ∧ ∀ k ∈ gs, k ∈ gs0 ∨ w0.heap.size ≤ k

theorem Room.stay (h : Ch w base cb f n v gs) (hn : n % 4096 ≠ 0) : Room w w base cb f n v gs f v gs :=
  ⟨h.1, by have := h.2; omega, fun _ => .inl rfl, Kept.refl _ _, fun _ hk => .inl hk⟩

theorem Room.grow {w3 : World} {v' : Value} (h : Ch w base cb f n v gs) (hn : n % 4096 = 0)
    (hown : w3.ownsRow base 34 1 v' (gs.length + 1) (gs.map blk ++ [blk w.heap.size]))
    (hg : ((w.alloc (.cells zs4 3)).alloc (.cells #[blk w.heap.size] 34)).grownBy w3 v.ownBlock) :
    Room w (w3.setCell ⟨cb, 0, none⟩ v') base cb f n v gs (fun k => if n ≤ k then 0 else f k) v' (gs ++ [w.heap.size]) := by
  obtain ⟨h1, h2⟩ := h
  obtain ⟨r1, r2⟩ := h1.grow (by omega) hown hg
  refine ⟨r1, by simp; omega, fun k => ?_, r2, fun k hk => ?_⟩
  · by_cases hk : n ≤ k
    · exact .inr ⟨hk, if_pos hk⟩
    · exact .inl (if_neg hk)
  · rcases List.mem_append.1 hk with hk | hk
    · exact .inl hk
    · simp at hk
      exact .inr (by omega)

theorem Room.put {w0 : World} {f0 : Nat → Int} {v0 : Value} {gs0 : List Nat} (h : Room w0 w base cb f0 n v0 gs0 f v gs) {b : Nat} (hb : gs[n / 4096]? = some b) (x : Int) :
    ∃ f' v' gs', Ch ((w.setCell ⟨b, n % 4096, none⟩ (.int .i64 x)).setCell ⟨cb, 1, none⟩ (.int .i64 ((n + 1 : Nat) : Int))) base cb f' (n + 1) v' gs' ∧ f' n = x ∧ (∀ k, k ≠ n → f' k = f0 k ∨ (n < k ∧ f' k = 0)) ∧
      Kept (foot cb v0 gs0) w0 ((w.setCell ⟨b, n % 4096, none⟩ (.int .i64 x)).setCell ⟨cb, 1, none⟩ (.int .i64 ((n + 1 : Nat) : Int))) ∧ (∀ k ∈ gs', k ∈ gs0 ∨ w0.heap.size ≤ k) := by
  obtain ⟨h1, h2, h3, h4, h5⟩ := h
  refine ⟨fun k => if k = n then x else f k, v, gs, ⟨h1.put hb x, by omega⟩, if_pos rfl, fun k hk => ?_, h4.then_ (putKept (List.mem_of_getElem? hb) _ _ _) ?_, h5⟩
  · simp only [if_neg hk]
    rcases h3 k with e | ⟨e1, e2⟩
    · exact .inl e
    · exact .inr ⟨by omega, e2⟩
  · intro i hi ht
    rcases ht with rfl | ht
    · exact .inl rfl
    · rcases h5 i ht with h | h
      · exact .inr (.inl h)
      · omega

/-- 'append' onto a row of the call's own, as one step of a region that draws: the value comes written out. -/
theorem step_append_own {P : Program} {ops : Array Oper} {o : Oper} {a : Act} {w : World} {K : Act → World → Prop} {Q : Exit → Act → World → Prop} {E : Prop}
    (hg : o.guard = none) (s x : Operand) (t : TypeId) (hop : o.op = Op.call { callee := Callee.builtin Builtin.append, args := #[s, x], argTypes := #[t, t] })
    (base : Nat) (e : TypeId) (i : TypeInfo) (z : Value) (size bytes : Nat) (ht : P.underlying t = some (.slice e)) (hi : P.info? e = some i) (hz : i.zero = some z)
    (hsize : i.size = size) (hby : i.bytes = bytes) (hzs : z.cells.size = size) (hsz : 0 < size)
    (v : Value) (n : Nat) (xs : List Value) (hs : a.eval s = v) (hown : w.ownsRow base e size v n xs)
    (ad : Addr) (m c : Nat) (news : List Value) (hx : a.eval x = .slice (some ad) m c) (hl : news.length = m * size) (hnews : ∀ j u, news[j]? = some u → w.cell? (ad.add j) = some u) (h1 : ∀ u ∈ news, u.oneCell' = true)
    (h63 : n + m ≤ maxLen) (hbytes : (n + m) * bytes ≤ 140737488355328) (hbase : base ≤ w.heap.size) (hm : 0 < m)
    (h : ∀ g cap w', w'.ownsRow base e size (.slice (some ⟨g, 0, none⟩) (n + m) cap) (n + m) (xs ++ news) → w.grownBy w' v.ownBlock → K (a.put o.dst (.slice (some ⟨g, 0, none⟩) (n + m) cap)) w') :
    if Region.wanted o (yielded ops a.tmps) = true then Oper.wp P o a w K Q else E := by
  have hw : Region.wanted o (yielded ops a.tmps) = true := by simp [Region.wanted, hg]
  rw [if_pos hw]
  refine wp_append_own w s x t hop base e i z size bytes ht hi hz hsize hby hzs hsz v n xs hs hown ad m c news hx hl hnews h1 h63 hbytes hbase fun v' w' h2 h3 _ => ?_
  rcases h2.2 with ⟨_, h0⟩ | ⟨g, cap, cur, rfl, _⟩
  · omega
  · exact h g cap w' h2 h3

end Go.Proofs.Ybulkcjpq
