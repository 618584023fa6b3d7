/-
  writeString (15): its memory.
-/
import Derived.Test.Qxb6602691aIndex
import Derived.Test.Qxb6602691aAppend
namespace Go.Proofs.Qxb6602691a
open Go.RowKit

/-- The canonicalizer's box: five fields, the fourth the slice that is written. -/
def box (d q f v u : Value) : Obj := .cells #[d, q, f, v, u] 36 (0, 0)

/-- What holds of the memory while writeString writes: the box p holds a slice that owns the bytes ys; from w on only the box, the first row and new blocks have turned. -/
structure Wr (base p : Nat) (d q f u v : Value) (w : World) (ys : List Int) (cv : Value) (n : Nat) (wr : World) : Prop where
  bx : wr.heap[p]? = some (box d q f cv u)
  own : wr.ownsRow base 5 1 cv n (bys ys)
  lies : ∀ g, cv.ownBlock = some g → v.ownBlock = some g ∨ w.heap.size ≤ g
  chg : Chg (fun k => k = p ∨ v.ownBlock = some k) w wr

theorem box_cell {w : World} {p : Nat} {d q f v u : Value} (h : w.heap[p]? = some (box d q f v u)) : w.cell? ⟨p, 3, none⟩ = some v := by
  rw [cell_of_row w p 3 _ 36 (0, 0) h]; rfl

theorem box_free {w : World} {p : Nat} {d q f v u : Value} (h : w.heap[p]? = some (box d q f v u)) : w.frozen? ⟨p, 3, none⟩ = false := frozen_of_row w p 3 _ 36 h

theorem box_lt {w : World} {p : Nat} {o : Obj} (h : w.heap[p]? = some o) : p < w.heap.size := (Array.getElem?_eq_some_iff.1 h).1

theorem box_set {w : World} {p : Nat} {d q f v u : Value} (h : w.heap[p]? = some (box d q f v u)) (v' : Value) : (w.setCell ⟨p, 3, none⟩ v').heap[p]? = some (box d q f v' u) := by
  rw [heap_setCell_same w p 3 _ 36 v' h]; rfl

/-- The box is not the row. -/
theorem box_ne {w : World} {p base : Nat} {d q f v u s : Value} {n : Nat} {xs : List Value} (h : w.heap[p]? = some (box d q f v u)) (ho : w.ownsRow base 5 1 s n xs) : s.ownBlock ≠ some p := by
  intro e
  rcases ho.2 with ⟨rfl, _⟩ | ⟨g, cap, cur, rfl, _, hg, _⟩
  · simp [Value.ownBlock] at e
  · simp [Value.ownBlock] at e
    subst e
    rw [hg] at h
    simp [box] at h

/-- ONE PUSH: a literal was laid, appended, and the new slice stored into the box. -/
theorem Wr.push {base p : Nat} {d q f u v cv : Value} {w wr : World} {ys news : List Int} {n : Nat} (h : Wr base p d q f u v w ys cv n wr) {k : Nat} {wd w1 : World} {g' cap' : Nat}
    (hc : Chg (fun _ => False) wr wd) (hsz : wd.heap.size = wr.heap.size + 1)
    (hown : w1.ownsRow base 5 1 (.slice (some ⟨g', 0, none⟩) (n + k) cap') (n + k) (bys ys ++ bys news)) (hgrow : wd.grownBy w1 cv.ownBlock) (hat : cv.ownBlock = some g' ∨ g' = wr.heap.size + 1) :
    w1.heap[p]? = some (box d q f cv u) ∧ Wr base p d q f u v w (ys ++ news) (.slice (some ⟨g', 0, none⟩) (n + k) cap') (n + k) (w1.setCell ⟨p, 3, none⟩ (.slice (some ⟨g', 0, none⟩) (n + k) cap')) := by
  have hne := box_ne h.bx h.own
  have hp := box_lt h.bx
  have hb1 : w1.heap[p]? = some (box d q f cv u) := by
    rw [hgrow.block p (by omega) (fun e => hne e.symm), hc.block p hp (fun e => e)]; exact h.bx
  have hws : w.heap.size ≤ wr.heap.size := h.chg.size
  have c1 : Chg (fun k => k = p ∨ v.ownBlock = some k) w w1 := by
    refine (h.chg.trans hc (fun _ _ hf => hf.elim)).trans (Chg.of_grown hgrow) (fun i hi e => ?_)
    rcases h.lies i e with hl | hl
    · exact .inr hl
    · omega
  refine ⟨hb1, box_set hb1 _, ?_, ?_, c1.setCell (fun _ => .inl rfl) _⟩
  · rw [bys_append]
    exact ownsRow_setCell_other hown (a := ⟨p, 3, none⟩) (box_ne hb1 hown) _
  · intro g e
    have e' : g' = g := by simpa [Value.ownBlock] using e
    subst e'
    rcases hat with e | e
    · exact h.lies _ e
    · exact .inr (by omega)

end Go.Proofs.Qxb6602691a
