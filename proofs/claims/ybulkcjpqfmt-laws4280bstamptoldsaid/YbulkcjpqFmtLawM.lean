import Derived.Test.YbulkcjpqFmtLawD
import Derived.Test.YbulkcjpqFmtLawH
import Derived.Test.YbulkcjpqFmtStampB
namespace Go.Proofs.YbulkcjpqFmt
open Go.ChangeShapes Go.WideShapes Go.ChangeAt Go.RowKit Go.Deep
set_option linter.unusedVariables false
set_option linter.unusedSimpArgs false

theorem HH_first (M : Nat → Int) (p : Nat) : HH M (8 * p) = true := by
  unfold HH hasAt
  rw [show 8 * p % 8 = 0 by omega]
  rfl

theorem kl_step (M : Nat → Int) (N : Nat) : (kl M N).length ≤ (kl M (N + 1)).length := by
  cases h : HH M N
  · rw [kl_no h]; exact Nat.le_refl _
  · rw [kl_yes h]; simp
theorem kl_mono (M : Nat → Int) {x y : Nat} (h : x ≤ y) : (kl M x).length ≤ (kl M y).length := by
  induction h with
  | refl => exact Nat.le_refl _
  | step _ ih => exact Nat.le_trans ih (kl_step M _)
theorem kl_lt (M : Nat → Int) {x y : Nat} (h : x < y) (hx : HH M x = true) : (kl M x).length < (kl M y).length := by
  have h1 : (kl M (x + 1)).length = (kl M x).length + 1 := by rw [kl_yes hx]; simp
  have h2 := kl_mono M (show x + 1 ≤ y from h)
  omega
theorem kl_get (M : Nat → Int) {x N : Nat} (h : x < N) (hx : HH M x = true) : (kl M N)[(kl M x).length]? = some x := by
  induction N with
  | zero => omega
  | succ N ih =>
    by_cases e : x = N
    · subst e
      rw [kl_yes hx]
      simp
    · have h1 := ih (by omega)
      have h2 := kl_lt M (show x < N by omega) hx
      cases hN : HH M N
      · rw [kl_no hN]; exact h1
      · rw [kl_yes hN, List.getElem?_append_left h2]; exact h1
theorem kl_inv (M : Nat → Int) {j N : Nat} (h : j < (kl M N).length) : ∃ x, x < N ∧ HH M x = true ∧ j = (kl M x).length ∧ (kl M N)[j]? = some x := by
  induction N with
  | zero => simp [kl] at h
  | succ N ih =>
    by_cases h1 : j < (kl M N).length
    · obtain ⟨x, hx, hh, e, hg⟩ := ih h1
      exact ⟨x, by omega, hh, e, by rw [e]; exact kl_get M (by omega) hh⟩
    · cases hN : HH M N
      · rw [kl_no hN] at h; omega
      · rw [kl_yes hN] at h
        simp at h
        obtain rfl : j = (kl M N).length := by omega
        exact ⟨N, by omega, hN, rfl, kl_get M (by omega) hN⟩

theorem flat_get {NV CV : Nat → Value} {l : List Nat} {j x : Nat} (h : l[j]? = some x) : (flat NV CV l)[j * 3]? = some (.int .i32 ((x % 8 : Nat) : Int)) ∧ (flat NV CV l)[j * 3 + 1]? = some (NV x) ∧ (flat NV CV l)[j * 3 + 2]? = some (CV x) := by
  induction l generalizing j with
  | nil => simp at h
  | cons a l ih =>
    cases j with
    | zero =>
      simp at h
      subst h
      exact ⟨rfl, rfl, rfl⟩
    | succ j =>
      have := ih (j := j) (by simpa using h)
      have e : flat NV CV (a :: l) = [.int .i32 ((a % 8 : Nat) : Int), NV a, CV a] ++ flat NV CV l := by unfold flat; rw [List.flatMap_cons]
      rw [e]
      refine ⟨?_, ?_, ?_⟩
      · rw [List.getElem?_append_right (by simp; omega)]
        rw [show (j + 1) * 3 - [Value.int .i32 ((a % 8 : Nat) : Int), NV a, CV a].length = j * 3 by simp; omega]
        exact this.1
      · rw [List.getElem?_append_right (by simp; omega)]
        rw [show (j + 1) * 3 + 1 - [Value.int .i32 ((a % 8 : Nat) : Int), NV a, CV a].length = j * 3 + 1 by simp; omega]
        exact this.2.1
      · rw [List.getElem?_append_right (by simp; omega)]
        rw [show (j + 1) * 3 + 2 - [Value.int .i32 ((a % 8 : Nat) : Int), NV a, CV a].length = j * 3 + 2 by simp; omega]
        exact this.2.2

def slA : Value → Option Addr
  | .slice a _ _ => a
  | _ => none
def slN : Value → Nat
  | .slice _ n _ => n
  | _ => 0
def slC : Value → Nat
  | .slice _ _ c => c
  | _ => 0

/-- The j-th kept place. -/
def xAt (M : Nat → Int) (n j : Nat) : Nat := ((kl M (n * 8))[j]?).getD 0

/-- The law's trace. -/
def mkT (vb gst gv cap gpf ge pb gp sb gs n m : Nat) (M PF : Nat → Int) (NV CV : Nat → Value) (l2 : Nat) (ep ek : Nat → Nat) : Tr where
  vb := vb
  gst := gst
  gv := gv
  L := (kl M (n * 8)).length
  cap := cap
  gpf := gpf
  ge := ge
  pb := pb
  gp := gp
  sb := sb
  gs := gs
  n := n
  m := m
  S := fun p => (kl M (8 * p)).length
  A := fun j => ((xAt M n j % 8 : Nat) : Int)
  NA := fun j => slA (NV (xAt M n j))
  N1 := fun j => slN (NV (xAt M n j))
  N2 := fun j => slC (NV (xAt M n j))
  CA := fun j => slA (CV (xAt M n j))
  C1 := fun j => slN (CV (xAt M n j))
  C2 := fun j => slC (CV (xAt M n j))
  PF := fun p => PF p % 9
  PR := fun i => ep i % n
  SQ := fun i => if l2 = 0 then 0 else ek (i % l2) % 8

theorem xAt_of {M : Nat → Int} {n x : Nat} (h : x < n * 8) (hx : HH M x = true) : xAt M n (kl M x).length = x := by
  unfold xAt
  rw [kl_get M h hx]
  rfl

theorem mkT_ok (vb gst gv cap gpf ge pb gp sb gs n m : Nat) (M PF : Nat → Int) (NV CV : Nat → Value) (l2 : Nat) (ep ek : Nat → Nat) (hn : n ≤ 3) (hn1 : 1 ≤ n) (hm : m ≤ 1024) (hcap : (kl M (n * 8)).length ≤ cap) (hcm : cap ≤ 9223372036854775807) (hPF : ∀ i, 0 ≤ PF i ∧ PF i ≤ 255) :
    (mkT vb gst gv cap gpf ge pb gp sb gs n m M PF NV CV l2 ep ek).Ok := by
  have hL := kl_len M (n * 8)
  refine ⟨hn1, hn, hm, ?_, hcap, hcm, fun p hp => ⟨?_, ?_⟩, fun p i j hp h1 h2 h3 => ?_, fun j hj => ?_, fun p hp => ?_, fun i hi => Nat.mod_lt _ (by omega), fun i hi => ?_, fun p hp => ?_⟩
  · show (kl M (n * 8)).length ≤ 100
    omega
  · exact kl_lt M (by omega) (HH_first M p)
  · show (kl M (8 * (p + 1))).length ≤ (kl M (n * 8)).length
    have hp' : p < n := hp
    exact kl_mono M (by omega)
  · have hp' : p < n := hp
    have h3' : j < (kl M (8 * (p + 1))).length := h3
    have h1' : (kl M (8 * p)).length ≤ i := h1
    have hle := kl_mono M (show 8 * (p + 1) ≤ n * 8 by omega)
    obtain ⟨x, hx, hhx, rfl, _⟩ := kl_inv M (show i < (kl M (n * 8)).length by omega)
    obtain ⟨y, hy, hhy, rfl, _⟩ := kl_inv M (show j < (kl M (n * 8)).length by omega)
    show ((xAt M n _ % 8 : Nat) : Int) < ((xAt M n _ % 8 : Nat) : Int)
    rw [xAt_of hx hhx, xAt_of hy hhy]
    have hxy : x < y := Classical.byContradiction fun e => by have := kl_mono M (show y ≤ x by omega); omega
    have hx8 : 8 * p ≤ x := Classical.byContradiction fun e => by have := kl_lt M (show x < 8 * p by omega) hhx; omega
    have hy8 : y < 8 * (p + 1) := Classical.byContradiction fun e => by have := kl_mono M (show 8 * (p + 1) ≤ y by omega); omega
    omega
  · show 0 ≤ ((xAt M n j % 8 : Nat) : Int) ∧ ((xAt M n j % 8 : Nat) : Int) ≤ 7
    omega
  · have hp' : p < n := hp
    show ((xAt M n (kl M (8 * p)).length % 8 : Nat) : Int) = 0
    rw [xAt_of (by omega) (HH_first M p)]
    omega
  · show (if l2 = 0 then 0 else ek (i % l2) % 8) ≤ 7
    split <;> omega
  · show 0 ≤ PF p % 9 ∧ PF p % 9 ≤ 8
    have := hPF p
    omega

/-- What the law has laid ahead of its checks. -/
structure Laid (w W : World) (gk gh gs gpf gpr gsq ge pb sb vb gv cap n m lc : Nat) (E M PF : Nat → Int) (NV CV kcf : Nat → Value) (l2 : Nat) (ep ek : Nat → Nat) : Prop where
  bel : Below w.heap.size w W
  hS : Blk W gs 21 (n + 1) (fun i => .int .i32 (if i ≤ n then ((kl M (8 * i)).length : Int) else 0))
  hH : Blk W gh 29 24 (fun i => .bool (decide (i < n * 8) && HH M i))
  hK : Blk W gk 27 72 kcf
  hKc : ∀ x q, x < n * 8 → HH M x = true → q < 3 → kcf (x * 3 + q) = .int .u64 (CC lc E x q)
  hV : W.ownsRow w.heap.size 43 3 (.slice (some ⟨gv, 0, none⟩) (kl M (n * 8)).length cap) (kl M (n * 8)).length (flat NV CV (kl M (n * 8)))
  hk : ∀ x, x ∈ kl M (n * 8) → KeptAt W w.heap.size (NV x) (CV x) (CC lc E x)
  hF : Blk W gpf 21 n (fun i => .int .i32 (PF i % 9))
  hPr : Blk W gpr 21 m (fun i => .int .i32 ((ep i : Int) % (n : Int)))
  hSq : Blk W gsq 24 m (fun i => .int .u64 (sqAt l2 ek i))
  he : W.heap[ge]? = some (.cells #[.int .i32 1, .int .i32 2, .int .i32 3] 21 (0, 0))
  hpb : W.heap[pb]? = some (.cells #[.slice (some ⟨gpr, 0, none⟩) m m] 30 (0, 0))
  hsb : W.heap[sb]? = some (.cells #[.slice (some ⟨gsq, 0, none⟩) m m] 34 (0, 0))
  hvb : W.heap[vb]? = some (.cells #[.slice (some ⟨gs, 0, none⟩) (n + 1) (n + 1), .slice (some ⟨gv, 0, none⟩) (kl M (n * 8)).length cap, .slice (some ⟨gpf, 0, none⟩) n n, .string (ByteArray.extract ⟨#[97, 98, 99]⟩ 0 n), .slice (some ⟨ge, 0, none⟩) n 3, .slice (some ⟨pb, 0, none⟩) 1 1, .int .i64 (m : Int), .slice (some ⟨sb, 0, none⟩) 1 1, .int .i64 (m : Int)] 56 (0, 0))

theorem KeptAt.form {W : World} {b0 : Nat} {nv cv : Value} {c : Nat → Int} (h : KeptAt W b0 nv cv c) : ∃ k an cn ac cc, nv = .slice an k cn ∧ cv = .slice ac k cc ∧ k ≤ cn ∧ cn ≤ 9223372036854775807 ∧ StampIs W (.agg #[nv, cv]) c := by
  obtain ⟨k, F, hs, h1, h2⟩ := h
  obtain ⟨an, cn, rfl, e1, e2, h3⟩ := row_form h1
  obtain ⟨ac, cc, rfl, e3, e4, h4⟩ := row_form h2
  exact ⟨k, an, cn, ac, cc, rfl, rfl, e1, e2, _, _, k, F, rfl, hs, ⟨an, cn, rfl, h3⟩, ⟨ac, cc, rfl, h4⟩⟩

theorem Laid.In {w W : World} {gk gh gs gpf gpr gsq ge pb sb vb gv cap n m lc : Nat} {E M PF : Nat → Int} {NV CV kcf : Nat → Value} {l2 : Nat} {ep ek : Nat → Nat} (h : Laid w W gk gh gs gpf gpr gsq ge pb sb vb gv cap n m lc E M PF NV CV kcf l2 ep ek) :
    (mkT vb gs gv cap gpf ge pb gpr sb gsq n m M PF NV CV l2 ep ek).In W := by
  have hv := h.hvb
  have cv : ∀ i u, (#[Value.slice (some ⟨gs, 0, none⟩) (n + 1) (n + 1), .slice (some ⟨gv, 0, none⟩) (kl M (n * 8)).length cap, .slice (some ⟨gpf, 0, none⟩) n n, .string (ByteArray.extract ⟨#[97, 98, 99]⟩ 0 n), .slice (some ⟨ge, 0, none⟩) n 3, .slice (some ⟨pb, 0, none⟩) 1 1, .int .i64 (m : Int), .slice (some ⟨sb, 0, none⟩) 1 1, .int .i64 (m : Int)] : Array Value)[i]? = some u → W.cell? ⟨vb, i, none⟩ = some u := fun i u hu => by
    simp only [World.cell?, hv]
    exact hu
  refine ⟨cv 0 _ rfl, cv 1 _ rfl, cv 2 _ rfl, cv 3 _ rfl, cv 4 _ rfl, cv 5 _ rfl, cv 7 _ rfl, cell_of_block1 h.hpb, cell_of_block1 h.hsb, fun p hp => ?_, fun p hp => h.hF.cell hp, fun i hi => ?_, fun i hi => ?_, fun i hi => ?_, fun j hj => ?_⟩
  · have hp' : p ≤ n := hp
    have := h.hS.cell (i := p) (by omega)
    rw [if_pos hp'] at this
    exact this
  · have he := h.he
    match i, hi with
    | 0, _ => simp [World.cell?, mkT, he]
    | 1, _ => simp [World.cell?, mkT, he]
    | 2, _ => simp [World.cell?, mkT, he]
  · have := h.hPr.cell (i := i) hi
    show W.cell? ⟨gpr, i, none⟩ = some (.int .i32 ((ep i % n : Nat) : Int))
    rw [this]
    simp
  · have := h.hSq.cell (i := i) hi
    show W.cell? ⟨gsq, i, none⟩ = some (.int .u64 (((if l2 = 0 then 0 else ek (i % l2) % 8 : Nat) : Int) + 1))
    rw [this]
    unfold sqAt
    split <;> simp
  · have hj' : j < (kl M (n * 8)).length := hj
    obtain ⟨x, hx, hhx, rfl, hg⟩ := kl_inv M hj'
    have hfl := flat_get (NV := NV) (CV := CV) hg
    obtain ⟨k, an, cn, ac, cc, e1, e2, _⟩ := (h.hk x (kl_mem.2 ⟨hx, hhx⟩)).form
    show W.cell? ⟨gv, _ * 3, none⟩ = some (.int .i32 ((xAt M n _ % 8 : Nat) : Int)) ∧ W.cell? ⟨gv, _ * 3 + 1, none⟩ = some (.slice (slA (NV (xAt M n _))) (slN (NV (xAt M n _))) (slC (NV (xAt M n _)))) ∧ W.cell? ⟨gv, _ * 3 + 2, none⟩ = some (.slice (slA (CV (xAt M n _))) (slN (CV (xAt M n _))) (slC (CV (xAt M n _))))
    rw [xAt_of hx hhx, h.hV.cellAt _ (by omega), h.hV.cellAt _ (by omega), h.hV.cellAt _ (by omega), hfl.1, hfl.2.1, hfl.2.2, e1, e2]
    exact ⟨rfl, rfl, rfl⟩

theorem Laid.Kept {w W : World} {gk gh gs gpf gpr gsq ge pb sb vb gv cap n m lc : Nat} {E M PF : Nat → Int} {NV CV kcf : Nat → Value} {l2 : Nat} {ep ek : Nat → Nat} (h : Laid w W gk gh gs gpf gpr gsq ge pb sb vb gv cap n m lc E M PF NV CV kcf l2 ep ek) :
    Kept (mkT vb gs gv cap gpf ge pb gpr sb gsq n m M PF NV CV l2 ep ek) (fun j => CC lc E (xAt M n j)) W := by
  intro j hj
  have hj' : j < (kl M (n * 8)).length := hj
  obtain ⟨x, hx, hhx, rfl, hg⟩ := kl_inv M hj'
  obtain ⟨k, an, cn, ac, cc, e1, e2, h1, h2, h3⟩ := (h.hk x (kl_mem.2 ⟨hx, hhx⟩)).form
  show StampIs W (.agg #[.slice (slA (NV (xAt M n _))) (slN (NV (xAt M n _))) (slC (NV (xAt M n _))), .slice (slA (CV (xAt M n _))) (slN (CV (xAt M n _))) (slC (CV (xAt M n _)))]) (CC lc E (xAt M n _)) ∧ slN (NV (xAt M n _)) ≤ slC (NV (xAt M n _)) ∧ slC (NV (xAt M n _)) ≤ 9223372036854775807
  rw [xAt_of hx hhx]
  rw [e1, e2] at h3 ⊢
  exact ⟨h3, h1, h2⟩

/-- What the law awaits of event i's stamp: k its place, t the place of the stamp kept last. -/
def expC (C : Nat → Nat → Int) (p k t : Nat) (q : Nat) : Int := if q = p ∧ t ≠ k ∧ C (p * 8 + t) p < (k : Int) + 1 then (k : Int) + 1 else C (p * 8 + t) q

theorem says_zero {T : Tr} {K : Nat → Nat → Int} {i : Nat} {c : Nat → Int} (h : StampSays T K i c) (hp : ¬ (T.SQ i : Int) < T.PF (T.PR i)) : c = fun _ => 0 := by
  rcases h with ⟨_, e⟩ | ⟨e, _⟩
  · exact e
  · exact absurd e hp

theorem says_kept {vb gst gv cap gpf ge pb gp sb gs n m : Nat} {M PF : Nat → Int} {NV CV : Nat → Value} {l2 lc : Nat} {E : Nat → Int} {ep ek : Nat → Nat} {i t : Nat} {c : Nat → Int} (hn1 : 1 ≤ n)
    (h : StampSays (mkT vb gst gv cap gpf ge pb gp sb gs n m M PF NV CV l2 ep ek) (fun j => CC lc E (xAt M n j)) i c) (hp : ((mkT vb gst gv cap gpf ge pb gp sb gs n m M PF NV CV l2 ep ek).SQ i : Int) < PF (ep i % n) % 9)
    (ht : t ≤ (mkT vb gst gv cap gpf ge pb gp sb gs n m M PF NV CV l2 ep ek).SQ i) (hs7 : (mkT vb gst gv cap gpf ge pb gp sb gs n m M PF NV CV l2 ep ek).SQ i < 8) (h0 : t = 0 ∨ HH M (ep i % n * 8 + t) = true) (hs : ∀ s, t < s → s ≤ (mkT vb gst gv cap gpf ge pb gp sb gs n m M PF NV CV l2 ep ek).SQ i → HH M (ep i % n * 8 + s) = false) (q : Nat) :
    c q = expC (CC lc E) (ep i % n) ((mkT vb gst gv cap gpf ge pb gp sb gs n m M PF NV CV l2 ep ek).SQ i) t q := by
  rcases h with ⟨e, _⟩ | ⟨_, j, hj1, hj2, hAj, hmax, rfl⟩
  · have e' : PF (ep i % n) % 9 ≤ ((mkT vb gst gv cap gpf ge pb gp sb gs n m M PF NV CV l2 ep ek).SQ i : Int) := e
    omega
  · have hpn : ep i % n < n := Nat.mod_lt _ (by omega)
    generalize hk : (mkT vb gst gv cap gpf ge pb gp sb gs n m M PF NV CV l2 ep ek).SQ i = k at *
    generalize hpp : ep i % n = p at *
    have hPR : (mkT vb gst gv cap gpf ge pb gp sb gs n m M PF NV CV l2 ep ek).PR i = p := hpp
    rw [hPR] at hj1 hj2 hmax ⊢
    have hj1' : (kl M (8 * p)).length ≤ j := hj1
    have hj2' : j < (kl M (8 * (p + 1))).length := hj2
    have hle := kl_mono M (show 8 * (p + 1) ≤ n * 8 by omega)
    obtain ⟨x, hx, hhx, rfl, _⟩ := kl_inv M (show j < (kl M (n * 8)).length by omega)
    have hx8 : 8 * p ≤ x := Classical.byContradiction fun e => by have := kl_lt M (show x < 8 * p by omega) hhx; omega
    have hy8 : x < 8 * (p + 1) := Classical.byContradiction fun e => by have := kl_mono M (show 8 * (p + 1) ≤ x by omega); omega
    have hAx : (mkT vb gst gv cap gpf ge pb gp sb gs n m M PF NV CV l2 ep ek).A (kl M x).length = ((x % 8 : Nat) : Int) := by
      show ((xAt M n _ % 8 : Nat) : Int) = _
      rw [xAt_of hx hhx]
    rw [hAx] at hAj hmax ⊢
    have hxt : x % 8 ≤ t := Classical.byContradiction fun e => by
      have h1 := hs (x % 8) (by omega) (by omega)
      rw [show p * 8 + x % 8 = x by omega, hhx] at h1
      cases h1
    have hht : HH M (p * 8 + t) = true := by
      rcases h0 with rfl | h0
      · rw [show p * 8 + 0 = 8 * p by omega]; exact HH_first M p
      · exact h0
    have htx : t ≤ x % 8 := by
      have h1 := hmax (kl M (p * 8 + t)).length (kl_mono M (by omega)) (kl_lt M (by omega) hht) (by
        show ((xAt M n _ % 8 : Nat) : Int) ≤ _
        rw [xAt_of (by omega) hht]
        omega)
      have h2 : ((xAt M n (kl M (p * 8 + t)).length % 8 : Nat) : Int) ≤ ((x % 8 : Nat) : Int) := h1
      rw [xAt_of (by omega) hht] at h2
      omega
    have hxe : x = p * 8 + t := by omega
    dsimp only
    rw [xAt_of hx hhx]
    unfold expC
    rw [hxe, show (p * 8 + t) % 8 = t by omega]
    by_cases e : t = k
    · rw [if_pos (by omega), if_neg (by omega)]
    · rw [if_neg (by omega)]
      by_cases eq : q = p
      · rw [eq]
        show (if p = p then max (CC lc E (p * 8 + t) p) ((k : Int) + 1) else _) = _
        rw [if_pos rfl]
        by_cases e3 : CC lc E (p * 8 + t) p < (k : Int) + 1
        · rw [if_pos ⟨rfl, e, e3⟩]; omega
        · rw [if_neg (fun h => e3 h.2.2)]; omega
      · show (if q = p then _ else CC lc E (p * 8 + t) q) = _
        rw [if_neg eq, if_neg (fun h => eq h.1)]

end Go.Proofs.YbulkcjpqFmt
