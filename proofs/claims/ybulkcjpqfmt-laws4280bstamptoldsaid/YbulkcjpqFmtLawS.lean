import Derived.Test.YbulkcjpqFmtLawF
import Derived.Test.YbulkcjpqFmtLawM
namespace Go.Proofs.YbulkcjpqFmt
open Go.ChangeShapes Go.WideShapes Go.ChangeAt Go.RowKit Go.Deep
set_option linter.unusedVariables false
set_option linter.unusedSimpArgs false

def tri (a b c : Int) (i : Nat) : Int := if i = 0 then a else if i = 1 then b else c

theorem blk_made (W : World) (z : Value) (n : Nat) (e : TypeId) : Blk (W.alloc (.cells (madeCells #[z] n) e)) W.heap.size e n (fun _ => z) :=
  ⟨_, heap_alloc_new W _, fun i hi => by simp [madeCells, hi, Nat.mod_one]⟩

theorem Blk.new (W : World) (cs : Array Value) (t : TypeId) (N : Nat) (f : Nat → Value) (h : ∀ i, i < N → cs[i]? = some (f i)) : Blk (W.alloc (.cells cs t)) W.heap.size t N f := ⟨cs, heap_alloc_new W _, h⟩

theorem LA_begin (w : World) (m0 m1 m2 p0 p1 p2 : Int) (zs hs : Array Value) (n lc : Nat) (E : Nat → Int) (hz : ∀ i, i < 72 → zs[i]? = some (.int .u64 0)) (hh : ∀ i, i < 24 → hs[i]? = some (.bool false)) :
    LA w ((((((w.alloc (.cells #[.int .u8 m0, .int .u8 m1, .int .u8 m2] 23)).alloc (.cells #[.int .u8 p0, .int .u8 p1, .int .u8 p2] 23)).alloc (.cells zs 27)).alloc (.cells hs 29)).alloc (.cells (madeCells #[.int .i32 0] (n + 1)) 21)).alloc (.cells #[] 43))
      w.heap.size (w.heap.size + 1) (w.heap.size + 1 + 1) (w.heap.size + 1 + 1 + 1) (w.heap.size + 1 + 1 + 1 + 1) n lc E (tri m0 m1 m2) (tri p0 p1 p2) (0 * 8) 0 (.slice (some ⟨w.heap.size + 1 + 1 + 1 + 1 + 1, 0, none⟩) 0 0) := by
  have b1 : Blk (w.alloc (.cells #[.int .u8 m0, .int .u8 m1, .int .u8 m2] 23)) w.heap.size 23 3 (fun i => .int .u8 (tri m0 m1 m2 i)) := Blk.new _ _ _ _ _ fun i hi => by rcases three hi with rfl | rfl | rfl <;> rfl
  have b2 : Blk ((w.alloc (.cells #[.int .u8 m0, .int .u8 m1, .int .u8 m2] 23)).alloc (.cells #[.int .u8 p0, .int .u8 p1, .int .u8 p2] 23)) (w.heap.size + 1) 23 3 (fun i => .int .u8 (tri p0 p1 p2 i)) := by
    have := Blk.new (w.alloc (.cells #[.int .u8 m0, .int .u8 m1, .int .u8 m2] 23)) #[.int .u8 p0, .int .u8 p1, .int .u8 p2] 23 3 (fun i => .int .u8 (tri p0 p1 p2 i)) fun i hi => by rcases three hi with rfl | rfl | rfl <;> rfl
    simpa only [World.size_alloc] using this
  have hB2 : Below w.heap.size w ((w.alloc (.cells #[.int .u8 m0, .int .u8 m1, .int .u8 m2] 23)).alloc (.cells #[.int .u8 p0, .int .u8 p1, .int .u8 p2] 23)) := ((Below.refl _ w).alloc (Nat.le_refl _) _).alloc (by simp) _
  have b1 := b1.alloc (.cells #[.int .u8 p0, .int .u8 p1, .int .u8 p2] 23)
  have z2 : ((w.alloc (.cells #[.int .u8 m0, .int .u8 m1, .int .u8 m2] 23)).alloc (.cells #[.int .u8 p0, .int .u8 p1, .int .u8 p2] 23)).heap.size = w.heap.size + 1 + 1 := by simp only [World.size_alloc]
  generalize (w.alloc (.cells #[.int .u8 m0, .int .u8 m1, .int .u8 m2] 23)).alloc (.cells #[.int .u8 p0, .int .u8 p1, .int .u8 p2] 23) = W2 at b1 b2 hB2 z2 ⊢
  have b3 := Blk.new W2 zs 27 72 (fun _ => .int .u64 0) hz
  have b4 := Blk.new (W2.alloc (.cells zs 27)) hs 29 24 (fun _ => .bool false) hh
  have b5 := blk_made ((W2.alloc (.cells zs 27)).alloc (.cells hs 29)) (.int .i32 0) (n + 1) 21
  have b6 := heap_alloc_new (((W2.alloc (.cells zs 27)).alloc (.cells hs 29)).alloc (.cells (madeCells #[.int .i32 0] (n + 1)) 21)) (.cells #[] 43)
  simp only [World.size_alloc, z2] at b3 b4 b5 b6
  refine ⟨(((hB2.alloc (by omega) _).alloc (by simp only [World.size_alloc]; omega) _).alloc (by simp only [World.size_alloc]; omega) _).alloc (by simp only [World.size_alloc]; omega) _, ⟨by omega, by omega, by omega⟩, (((b1.alloc _).alloc _).alloc _).alloc _, (((b2.alloc _).alloc _).alloc _).alloc _, (b5.alloc _).congr fun i hi => ?_, ((b4.alloc _).alloc _).congr fun i hi => ?_, fun _ => .bool false, fun _ => .bool false, _, ((b3.alloc _).alloc _).alloc _, fun x q hx => by omega, ?_, fun x hx => ?_⟩
  · by_cases e : i = 0
    · subst e; rfl
    · rw [if_neg (by omega)]
  · simp
  · refine ⟨rfl, .inr ⟨w.heap.size + 1 + 1 + 1 + 1 + 1, 0, #[], rfl, by omega, b6, Nat.le_refl 0, by unfold maxLen; omega, rfl, rfl⟩⟩
  · simp [kl] at hx

/-- What the checks meet. -/
theorem Laid.make {w W W' : World} {gM gP gk gh gs gpf gpr gsq ge pb sb vb gv cap n m lc : Nat} {E M PF : Nat → Int} {NV CV kcf : Nat → Value} {l2 : Nat} {ep ek : Nat → Nat} {v : Value} (h : LA w W gM gP gk gh gs n lc E M PF (n * 8) n v) (hv : v = .slice (some ⟨gv, 0, none⟩) (kl M (n * 8)).length cap)
    (h1 : Blk W gk 27 72 kcf) (h2 : ∀ x q, x < n * 8 → HH M x = true → q < 3 → kcf (x * 3 + q) = .int .u64 (CC lc E x q)) (h3 : W.ownsRow w.heap.size 43 3 v (kl M (n * 8)).length (flat NV CV (kl M (n * 8)))) (h4 : ∀ x, x ∈ kl M (n * 8) → KeptAt W w.heap.size (NV x) (CV x) (CC lc E x))
    (hB : Below W.heap.size W W') (hF : Blk W' gpf 21 n (fun i => .int .i32 (PF i % 9))) (hPr : Blk W' gpr 21 m (fun i => .int .i32 ((ep i : Int) % (n : Int)))) (hSq : Blk W' gsq 24 m (fun i => .int .u64 (sqAt l2 ek i)))
    (he : W'.heap[ge]? = some (.cells #[.int .i32 1, .int .i32 2, .int .i32 3] 21 (0, 0))) (hpb : W'.heap[pb]? = some (.cells #[.slice (some ⟨gpr, 0, none⟩) m m] 30 (0, 0))) (hsb : W'.heap[sb]? = some (.cells #[.slice (some ⟨gsq, 0, none⟩) m m] 34 (0, 0)))
    (hvb : W'.heap[vb]? = some (.cells #[.slice (some ⟨gs, 0, none⟩) (n + 1) (n + 1), .slice (some ⟨gv, 0, none⟩) (kl M (n * 8)).length cap, .slice (some ⟨gpf, 0, none⟩) n n, .string (ByteArray.extract ⟨#[97, 98, 99]⟩ 0 n), .slice (some ⟨ge, 0, none⟩) n 3, .slice (some ⟨pb, 0, none⟩) 1 1, .int .i64 (m : Int), .slice (some ⟨sb, 0, none⟩) 1 1, .int .i64 (m : Int)] 56 (0, 0))) :
    Laid w W' gk gh gs gpf gpr gsq ge pb sb vb gv cap n m lc E M PF NV CV kcf l2 ep ek := by
  subst hv
  exact ⟨h.bel.trans (hB.mono h.bel.size), h.hS.same (hB.block _ h.hS.lt), h.hH.same (hB.block _ h.hH.lt), h1.same (hB.block _ h1.lt), h2, ownsRow_below h3 hB, fun x hx => (h4 x hx).wid (Wid.of_below hB (fun _ => True)) (fun _ _ _ _ _ => trivial), hF, hPr, hSq, he, hpb, hsb, hvb⟩

theorem Below.of_wid_new {ok : Nat → Prop} {B : Nat} {w W W' : World} (h : Below B w W) (hB : B ≤ W.heap.size) (hw : Wid ok W W') (hok : ∀ k, k < B → ok k) : Below B w W' := Below.of_wid h hB hw hok

end Go.Proofs.YbulkcjpqFmt
