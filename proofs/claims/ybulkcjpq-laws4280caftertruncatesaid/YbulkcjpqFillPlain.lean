import Derived.Test.YbulkcjpqChunks
namespace Go.Proofs.Ybulkcjpq
open Go.RowKit Go.Deep

/-- What 'fill' has made so far: the list in blocks and the slice 'want' hold the numbers xs. -/
def Fill (w0 w : World) (cb gw cap n : Nat) (xs : List Int) : Prop :=
  xs.length = n ∧ w.ownsRow w0.heap.size 3 1 (.slice (some ⟨gw, 0, none⟩) n cap) n (xs.map (Value.int .i64)) ∧ Kept (fun k => k = cb) w0 w ∧
    ∃ f v gs, Ch w w0.heap.size cb f n v gs ∧ gw ∉ gs ∧ ∀ k, f k = xs.getD k 0

theorem getD_snoc (xs : List Int) (x : Int) (f f' : Nat → Int) (hf : ∀ k, f k = xs.getD k 0) (h1 : f' xs.length = x) (h2 : ∀ k, k ≠ xs.length → f' k = f k ∨ (xs.length < k ∧ f' k = 0)) (k : Nat) : f' k = (xs ++ [x]).getD k 0 := by
  by_cases e : k = xs.length
  · subst e
    rw [h1]
    simp [List.getD]
  · rcases h2 k e with h | ⟨h3, h4⟩
    · rw [h, hf]
      by_cases hl : k < xs.length
      · simp [List.getD, List.getElem?_append_left hl]
      · simp only [List.getD]
        rw [List.getElem?_eq_none (by omega), List.getElem?_eq_none (by simp; omega)]
    · rw [h4]
      simp only [List.getD]
      rw [List.getElem?_eq_none (by simp; omega)]
      rfl

theorem Fill.start (w0 : World) {w1 : World} {cb cap : Nat} (hc : w0.heap[cb]? = some (.cells #[.slice none 0 0, .int .i64 0] 37 (0, 0)))
    (hown : w1.ownsRow w0.heap.size 3 1 (.slice (some ⟨w0.heap.size, 0, none⟩) 0 cap) 0 []) (hg : w0.grownBy w1 none) : Fill w0 w1 cb w0.heap.size cap 0 [] := by
  have hlt := lt_of_block hc
  refine ⟨rfl, hown, (Kept.refl _ w0).grown hg (fun _ h => by cases h), fun _ => 0, .slice none 0 0, [], ⟨⟨?_, World.ownsRow_nil _ _ _ _, fun j g h => by simp at h, List.nodup_nil, hlt, hg.size⟩, rfl⟩, by simp, fun _ => by simp⟩
  rw [hg.block cb hlt (by simp)]
  exact hc

theorem Fill.list {w0 w : World} {cb gw cap n : Nat} {xs : List Int} (h : Fill w0 w cb gw cap n xs) : ∃ f v gs, Ch w w0.heap.size cb f n v gs := by
  obtain ⟨_, _, _, f, v, gs, h, _⟩ := h
  exact ⟨f, v, gs, h⟩

/-- The number x at the list's end, not yet in 'want'. -/
def FillMid (w0 w : World) (cb gw cap n : Nat) (xs : List Int) (x : Int) : Prop :=
  xs.length = n ∧ w.ownsRow w0.heap.size 3 1 (.slice (some ⟨gw, 0, none⟩) n cap) n (xs.map (Value.int .i64)) ∧ Kept (fun k => k = cb) w0 w ∧
    ∃ f v gs, Ch w w0.heap.size cb f (n + 1) v gs ∧ gw ∉ gs ∧ ∀ k, f k = (xs ++ [x]).getD k 0

theorem own3ne34 {w : World} {b1 b2 n m : Nat} {v u : Value} {xs ys : List Value} (h1 : w.ownsRow b1 3 1 v n xs) (h2 : w.ownsRow b2 34 1 u m ys) (k : Nat) (hv : v.ownBlock = some k) : u.ownBlock ≠ some k := by
  intro hu
  rcases h1.2 with ⟨rfl, _⟩ | ⟨g, cap, cur, rfl, _, hg, _⟩
  · simp [Value.ownBlock] at hv
  · rcases h2.2 with ⟨rfl, _⟩ | ⟨g', cap', cur', rfl, _, hg', _⟩
    · simp [Value.ownBlock] at hu
    · simp [Value.ownBlock] at hu hv
      subst hu
      subst hv
      rw [hg] at hg'
      simp at hg'

theorem fill_mid {w0 w w1 : World} {cb gw cap n : Nat} {xs : List Int} {x : Int} {f f' : Nat → Int} {v v' : Value} {gs gs' : List Nat} (hl : xs.length = n)
    (ho : w.ownsRow w0.heap.size 3 1 (.slice (some ⟨gw, 0, none⟩) n cap) n (xs.map (Value.int .i64))) (hk : Kept (fun k => k = cb) w0 w)
    (hc : Ch w w0.heap.size cb f n v gs) (hg : gw ∉ gs) (hf : ∀ k, f k = xs.getD k 0)
    (c1 : Ch w1 w0.heap.size cb f' (n + 1) v' gs') (c2 : f' n = x) (c3 : ∀ k, k ≠ n → f' k = f k ∨ (n < k ∧ f' k = 0)) (c4 : Kept (foot cb v gs) w w1) (c5 : ∀ k ∈ gs', k ∈ gs ∨ w.heap.size ≤ k) : FillMid w0 w1 cb gw cap n xs x := by
  have hlt := ho.lt gw rfl
  have hsz := hc.1.size
  have hcb := hc.1.lo
  refine ⟨hl, c4.owns ho ?_, hk.then_ c4 ?_, f', v', gs', c1, ?_, ?_⟩
  · intro k hk' hf'
    have hkg : gw = k := by simpa [Value.ownBlock] using hk'
    rcases hf' with e | e | e
    · omega
    · rw [← hkg] at e; exact hg e
    · exact own3ne34 ho hc.1.own k hk' e
  · intro i hi ht
    rcases ht with e | e | e
    · exact e
    · obtain ⟨j, hj⟩ := List.getElem?_of_mem e
      have := (hc.1.rows j i hj).1
      omega
    · have := (hc.1.own.lt i e).1
      omega
  · intro hm
    rcases c5 gw hm with e | e
    · exact hg e
    · omega
  · subst hl
    exact getD_snoc xs x f f' hf c2 c3

theorem FillMid.done {w0 w w3 : World} {cb gw cap n : Nat} {xs : List Int} {x : Int} {o : Obj} (h : FillMid w0 w cb gw cap n xs x)
    (hown : w3.ownsRow w0.heap.size 3 1 (.slice (some ⟨gw, 0, none⟩) (n + 1) cap) (n + 1) (xs.map (Value.int .i64) ++ [.int .i64 x]))
    (hgr : (w.alloc o).grownBy w3 (some gw)) : Fill w0 w3 cb gw cap (n + 1) (xs ++ [x]) := by
  obtain ⟨hl, ho, hk, f, v, gs, hc, hg, hf⟩ := h
  have hlt := ho.lt gw rfl
  have hcb := hc.1.lo
  have K : Kept (fun k => k = gw) w w3 := ((Kept.refl _ w).alloc o).grown hgr (fun k e => by simpa using e.symm)
  refine ⟨by simp [hl], by simpa using hown, hk.then_ K (fun i hi e => by omega), f, v, gs, ⟨hc.1.kept K ?_, hc.2⟩, hg, hf⟩
  intro i _ hf' e
  subst e
  rcases hf' with e | e | e
  · omega
  · exact hg e
  · exact own3ne34 ho hc.1.own i rfl e

end Go.Proofs.Ybulkcjpq
