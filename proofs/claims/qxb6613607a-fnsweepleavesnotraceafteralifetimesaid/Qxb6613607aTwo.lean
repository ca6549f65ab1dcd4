/-
  Seat b6613607a: two verifiers side by side: what turns one leaves the other as it was.
-/
import Derived.Test.Qxb6613607aPlain
namespace Go.Proofs.Qxb6613607a
open Go.RowKit Go.Maps Go.WideMaps

theorem grown_of_below {w w' : World} (h : Below w.heap.size w w') : w.grownBy w' none := ⟨h.os, h.tape, h.output, h.size, fun k hk _ => h.block k hk⟩

theorem VS.belowed {w w' : World} {vb bm n : Nat} {life next : Int} {D : DataW Unit} (h : VS w vb bm life next n D) (hb : Below w.heap.size w w') : VS w' vb bm life next n D :=
  h.kept (grown_of_below hb) (by simp) (by simp) (fun r hr => by cases hr)

theorem VS.kept2 {w wm w' : World} {vb1 bm1 n1 vb2 bm2 n2 : Nat} {l1 x1 l2 x2 : Int} {D1 D2 : DataW Unit} (h2 : VS w vb2 bm2 l2 x2 n2 D2) (h1 : VS w vb1 bm1 l1 x1 n1 D1)
    (hg1 : w.grownBy wm (some bm1)) (hg2 : wm.grownBy w' (some vb1)) (e1 : vb2 ≠ bm1) (e2 : bm2 ≠ bm1) (e3 : vb2 ≠ vb1) (e4 : bm2 ≠ vb1) : VS w' vb2 bm2 l2 x2 n2 D2 := by
  refine (h2.kept hg1 (fun e => e1 (by cases e; rfl)) (fun e => e2 (by cases e; rfl)) (fun r hr => by cases hr; exact h1.expm)).kept hg2 (fun e => e3 (by cases e; rfl)) (fun e => e4 (by cases e; rfl)) (fun r hr => ?_)
  cases hr
  have hb := hg1.block vb1 h1.lt (fun e => h1.ne (by cases e; rfl))
  have := h1.exp
  unfold expAt at this ⊢
  rw [hb]; exact this

theorem swept {a w wm w' : World} {bm vb : Nat} (h : Below a.heap.size a w) (hg1 : w.grownBy wm (some bm)) (hg2 : wm.grownBy w' (some vb)) (e1 : a.heap.size ≤ bm) (e2 : a.heap.size ≤ vb) : Below a.heap.size a w' :=
  (h.grown hg1 h.size (fun j hj => by cases hj; exact e1)).grown hg2 (Nat.le_trans h.size hg1.size) (fun j hj => by cases hj; exact e2)

end Go.Proofs.Qxb6613607a
