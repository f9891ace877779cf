import Derived.Test.YbulkcjpqFmtLawC
namespace Go.Proofs.YbulkcjpqFmt
open Go.ChangeShapes Go.WideShapes Go.ChangeAt Go.RowKit Go.Deep
set_option linter.unusedVariables false
set_option linter.unusedSimpArgs false

/-- Place x of the 24: is a stamp kept there? -/
def HH (M : Nat → Int) (x : Nat) : Bool := hasAt M (x / 8) (x % 8)
/-- The kept places below idx. -/
def kl (M : Nat → Int) (idx : Nat) : List Nat := (List.range idx).filter (HH M)
/-- The counts at place x. -/
def CC (lc : Nat) (E : Nat → Int) (x : Nat) : Nat → Int := cntAt lc E (x * 3)
/-- The cells of the kept stamps. -/
def flat (NV CV : Nat → Value) (l : List Nat) : List Value := l.flatMap (fun x => [.int .i32 ((x % 8 : Nat) : Int), NV x, CV x])
def KeptAt (W : World) (b0 : Nat) (nv cv : Value) (c : Nat → Int) : Prop :=
  ∃ k F, Sub F k c ∧ W.ownsRow b0 9 1 nv k ((List.range k).map (fun t => namV (F t))) ∧ W.ownsRow b0 24 1 cv k ((List.range k).map (fun t => cntV c (F t)))

theorem kl_yes {M : Nat → Int} {idx : Nat} (h : HH M idx = true) : kl M (idx + 1) = kl M idx ++ [idx] := by
  unfold kl
  rw [List.range_succ, List.filter_append]
  simp [h]
theorem kl_no {M : Nat → Int} {idx : Nat} (h : HH M idx = false) : kl M (idx + 1) = kl M idx := by
  unfold kl
  rw [List.range_succ, List.filter_append]
  simp [h]
theorem kl_mem {M : Nat → Int} {idx x : Nat} : x ∈ kl M idx ↔ x < idx ∧ HH M x = true := by
  unfold kl
  simp
theorem kl_len (M : Nat → Int) (idx : Nat) : (kl M idx).length ≤ idx := by
  unfold kl
  exact Nat.le_trans (List.length_filter_le _ _) (by simp)

theorem Blk.apart {W : World} {g g' : Nat} {t t' : TypeId} {N N' : Nat} {f f' : Nat → Value} (h : Blk W g t N f) (h' : Blk W g' t' N' f') (ht : t ≠ t') : g ≠ g' := fun e => by
  obtain ⟨cs, hb, _⟩ := h
  obtain ⟨cs', hb', _⟩ := h'
  subst e
  rw [hb] at hb'
  simp at hb'
  exact ht hb'.2

structure LA (w W : World) (gM gP gk gh gs n lc : Nat) (E M PF : Nat → Int) (idx d : Nat) (v : Value) : Prop where
  bel : Below w.heap.size w W
  ge : w.heap.size ≤ gk ∧ w.heap.size ≤ gh ∧ w.heap.size ≤ gs
  hM : Blk W gM 23 3 (fun i => .int .u8 (M i))
  hP : Blk W gP 23 3 (fun i => .int .u8 (PF i))
  hS : Blk W gs 21 (n + 1) (fun i => .int .i32 (if i ≤ d then ((kl M (8 * i)).length : Int) else 0))
  hH : Blk W gh 29 24 (fun i => .bool (decide (i < idx) && HH M i))
  rest : ∃ NV CV kcf, Blk W gk 27 72 kcf ∧ (∀ x q, x < idx → HH M x = true → q < 3 → kcf (x * 3 + q) = .int .u64 (CC lc E x q)) ∧
    W.ownsRow w.heap.size 43 3 v (kl M idx).length (flat NV CV (kl M idx)) ∧ ∀ x, x ∈ kl M idx → KeptAt W w.heap.size (NV x) (CV x) (CC lc E x)

theorem LA.no {w W : World} {gM gP gk gh gs n lc : Nat} {E M PF : Nat → Int} {idx d : Nat} {v : Value} (h : LA w W gM gP gk gh gs n lc E M PF idx d v) (hn : HH M idx = false) : LA w W gM gP gk gh gs n lc E M PF (idx + 1) d v := by
  obtain ⟨NV, CV, kcf, h1, h2, h3, h4⟩ := h.rest
  refine ⟨h.bel, h.ge, h.hM, h.hP, h.hS, h.hH.congr fun i hi => ?_, NV, CV, kcf, h1, fun x q hx hh hq => ?_, by rw [kl_no hn]; exact h3, by rw [kl_no hn]; exact h4⟩
  · by_cases e : i = idx
    · rw [e, hn]; simp
    · rw [show decide (i < idx + 1) = decide (i < idx) by simp; omega]
  · by_cases e : x = idx
    · rw [e, hn] at hh; cases hh
    · exact h2 x q (by omega) hh hq

theorem KeptAt.wid {W W' : World} {b0 : Nat} {nv cv : Value} {c : Nat → Int} {ok : Nat → Prop} (h : KeptAt W b0 nv cv c) (hw : Wid ok W W') (hok : ∀ g cur t, W.heap[g]? = some (.cells cur t (0, 0)) → (t = 9 ∨ t = 24) → ok g) : KeptAt W' b0 nv cv c := by
  obtain ⟨k, F, hs, h1, h2⟩ := h
  have key : ∀ {e : TypeId} {u : Value} {xs : List Value}, (e = 9 ∨ e = 24) → W.ownsRow b0 e 1 u k xs → W'.ownsRow b0 e 1 u k xs := fun he hr => by
    refine ⟨hr.1, ?_⟩
    rcases hr.2 with h3 | ⟨g, cap, cur, rfl, h4, h5, h6⟩
    · exact .inl h3
    · exact .inr ⟨g, cap, cur, rfl, h4, (hw.block g (lt_of_block h5) (hok g cur _ h5 he)).trans h5, h6⟩
  exact ⟨k, F, hs, key (.inl rfl) h1, key (.inr rfl) h2⟩

/-- A block of one type is not one of another. -/
theorem Blk.ne {W : World} {g g' : Nat} {t t' : TypeId} {N : Nat} {f : Nat → Value} {cur : Array Value} (h : Blk W g t N f) (hb' : W.heap[g']? = some (.cells cur t' (0, 0))) (ht : t' ≠ t) : g' ≠ g := fun e => by
  obtain ⟨cs, hb, _⟩ := h
  subst e
  rw [hb] at hb'
  simp at hb'
  exact ht hb'.2.symm
theorem row_ne {W : World} {b size n : Nat} {e : TypeId} {v : Value} {xs : List Value} (h : W.ownsRow b e size v n xs) {g : Nat} {cur : Array Value} {t : TypeId} (hb : W.heap[g]? = some (.cells cur t (0, 0))) (ht : t ≠ e) : some g ≠ v.ownBlock := not_row hb ht h

theorem Below.of_wid {b : Nat} {w W W' : World} {ok : Nat → Prop} (h : Below b w W) (hb : b ≤ W.heap.size) (hw : Wid ok W W') (hok : ∀ k, k < b → ok k) : Below b w W' :=
  h.trans ⟨hw.os, hw.tape, hw.output, hw.size, fun k hk => hw.block k (by omega) (hok k hk)⟩

theorem own_ge {W : World} {b size n : Nat} {e : TypeId} {v : Value} {xs : List Value} (h : W.ownsRow b e size v n xs) {k : Nat} (hk : k < b) : some k ≠ v.ownBlock := fun e => by
  have := (h.lt k e.symm).1
  omega

theorem flat_congr {NV CV NV' CV' : Nat → Value} {l : List Nat} (h : ∀ x, x ∈ l → NV x = NV' x ∧ CV x = CV' x) : flat NV CV l = flat NV' CV' l := by
  induction l with
  | nil => rfl
  | cons a l ih =>
    have h1 := h a (by simp)
    have h2 := ih fun x hx => h x (by simp [hx])
    unfold flat at h2 ⊢
    rw [List.flatMap_cons, List.flatMap_cons, h2, h1.1, h1.2]

theorem LA.yes {w W W' : World} {gM gP gk gh gs n lc : Nat} {E M PF : Nat → Int} {idx d : Nat} {v v' : Value} {kcf : Nat → Value} {NV CV : Nat → Value} (h : LA w W gM gP gk gh gs n lc E M PF idx d v) (hy : HH M idx = true) (hi : idx < 24)
    (h1 : Blk W gk 27 72 kcf) (h2 : ∀ x q, x < idx → HH M x = true → q < 3 → kcf (x * 3 + q) = .int .u64 (CC lc E x q))
    (h3 : W.ownsRow w.heap.size 43 3 v (kl M idx).length (flat NV CV (kl M idx))) (h4 : ∀ x, x ∈ kl M idx → KeptAt W w.heap.size (NV x) (CV x) (CC lc E x))
    (hp : P3Post W w.heap.size gh gk idx (CC lc E idx) kcf (fun i => .bool (decide (i < idx) && HH M i)) v (kl M idx).length (flat NV CV (kl M idx)) (idx % 8) W' v') :
    LA w W' gM gP gk gh gs n lc E M PF (idx + 1) d v' := by
  obtain ⟨nv, cv, k, F, kcf', hs, hon, hoc, hv, hH, hkc, hkcf, hw⟩ := hp
  have hz := h.bel.size
  have hge := h.ge
  have same : ∀ {g t N f}, Blk W g t N f → t ≠ 27 → t ≠ 29 → t ≠ 43 → W'.heap[g]? = W.heap[g]? := fun {g t N f} hb n1 n2 n3 => hw.block g hb.lt ⟨hb.apart h.hH n2, hb.apart h1 n1, hb.notRow n3 h3⟩
  have hok : ∀ g cur t, W.heap[g]? = some (.cells cur t (0, 0)) → (t = 9 ∨ t = 24) → g ≠ gh ∧ g ≠ gk ∧ some g ≠ v.ownBlock := fun g cur t hb ht =>
    ⟨h.hH.ne hb (by rcases ht with e | e <;> rw [e] <;> decide), h1.ne hb (by rcases ht with e | e <;> rw [e] <;> decide), row_ne h3 hb (by rcases ht with e | e <;> rw [e] <;> decide)⟩
  refine ⟨Below.of_wid h.bel hz hw (fun j hj => ⟨by omega, by omega, own_ge h3 hj⟩), hge, h.hM.same (same h.hM (by decide) (by decide) (by decide)), h.hP.same (same h.hP (by decide) (by decide) (by decide)), h.hS.same (same h.hS (by decide) (by decide) (by decide)), hH.congr fun i hi' => ?_,
    fun x => if x = idx then nv else NV x, fun x => if x = idx then cv else CV x, kcf', hkc, fun x q hx hh hq => ?_, ?_, fun x hx => ?_⟩
  · by_cases e : i = idx
    · rw [if_pos e, e, hy]; simp
    · rw [if_neg e, show decide (i < idx + 1) = decide (i < idx) by simp; omega]
  · rw [hkcf _ (by omega)]
    by_cases e : x = idx
    · rw [if_pos (by omega), e, Nat.add_sub_cancel_left]
    · rw [if_neg (by omega)]
      exact h2 x q (by omega) hh hq
  · rw [kl_yes hy]
    have e : flat (fun x => if x = idx then nv else NV x) (fun x => if x = idx then cv else CV x) (kl M idx ++ [idx]) = flat NV CV (kl M idx) ++ [.int .i32 ((idx % 8 : Nat) : Int), nv, cv] := by
      unfold flat
      rw [List.flatMap_append]
      congr 1
      · exact flat_congr fun x hx => by
          have := (kl_mem.1 hx).1
          exact ⟨if_neg (by omega), if_neg (by omega)⟩
      · simp
    rw [e, List.length_append]
    exact hv
  · rw [kl_yes hy, List.mem_append] at hx
    rcases hx with hx | hx
    · have := (kl_mem.1 hx).1
      show KeptAt W' w.heap.size (if x = idx then nv else NV x) (if x = idx then cv else CV x) (CC lc E x)
      rw [if_neg (by omega), if_neg (by omega)]
      exact (h4 x hx).wid hw hok
    · rw [List.mem_singleton] at hx
      subst hx
      show KeptAt W' w.heap.size (if x = x then nv else NV x) (if x = x then cv else CV x) (CC lc E x)
      rw [if_pos rfl, if_pos rfl]
      exact ⟨k, F, hs, hon, hoc⟩

/-- A process more. -/
theorem LA.start {w W : World} {gM gP gk gh gs n lc : Nat} {E M PF : Nat → Int} {p : Nat} {v : Value} (h : LA w W gM gP gk gh gs n lc E M PF (p * 8 + 8) p v) :
    LA w (W.setCell ⟨gs, p + 1, none⟩ (.int .i32 ((kl M (p * 8 + 8)).length : Int))) gM gP gk gh gs n lc E M PF ((p + 1) * 8) (p + 1) v := by
  obtain ⟨NV, CV, kcf, h1, h2, h3, h4⟩ := h.rest
  have hge := h.ge
  have e8 : (p + 1) * 8 = p * 8 + 8 := by omega
  rw [e8]
  have hw : Wid (fun b => b ≠ gs) W (W.setCell ⟨gs, p + 1, none⟩ (.int .i32 ((kl M (p * 8 + 8)).length : Int))) := Wid.of_set _ _ _ (fun k hk => hk)
  refine ⟨h.bel.setCell hge.2.2 _, hge, h.hM.other (h.hM.apart h.hS (by decide)) _, h.hP.other (h.hP.apart h.hS (by decide)) _, (h.hS.set _ _).congr fun i hi => ?_, h.hH.other (h.hH.apart h.hS (by decide)) _, NV, CV, kcf, h1.other (h1.apart h.hS (by decide)) _, h2, ownsRow_setCell_other h3 (fun e => h.hS.notRow (by decide) h3 e.symm) _, fun x hx => (h4 x hx).wid hw fun g cur t hb ht => h.hS.ne hb (by rcases ht with e | e <;> rw [e] <;> decide)⟩
  by_cases e : i = p + 1
  · rw [if_pos e, if_pos (by omega), e, show 8 * (p + 1) = p * 8 + 8 by omega]
  · rw [if_neg e]
    by_cases e2 : i ≤ p
    · rw [if_pos e2, if_pos (by omega)]
    · rw [if_neg e2, if_neg (by omega)]

end Go.Proofs.YbulkcjpqFmt
