/-
  ZZWriteString (9): its contract.
-/
import Derived.Test.Qxb6602691aString
namespace Go.Proofs.Qxb6602691a
open Go.RowKit

/-- ZZWriteString writes out, a quote, each byte by the table, a quote; only out's own row and new blocks turn. -/
theorem zz_any (base : Nat) (va sa : Option Addr) (vc n m sc : Nat) (xs ss : List Int) (w : World) (hn : n ≤ 1048576) (hm : m ≤ 65536) (hb : base ≤ w.heap.size)
    (hown : w.ownsRow base 5 1 (.slice va n vc) n (bys xs)) (hs : RowAt w sa m ss) (hne : ∀ x, sa = some x → (Value.slice va n vc).ownBlock ≠ some x.block ∧ x.block < w.heap.size) :
    Calls Try.prog 9 #[.slice va n vc, .slice sa m sc] w fun e w' => ∃ g N cap, e = .returned (.slice (some ⟨g, 0, none⟩) N cap) ∧ w'.ownsRow base 5 1 (.slice (some ⟨g, 0, none⟩) N cap) N (bys (xs ++ [34] ++ escs ss ++ [34])) ∧
      Chg (fun k => (Value.slice va n vc).ownBlock = some k) w w' ∧ ((Value.slice va n vc).ownBlock = some g ∨ w.heap.size ≤ g) := by
  have hbx : (w.alloc (.cells #[.slice none 0 0, .int .i64 0, .bool false, .slice va n vc, .slice none 0 0] 36)).heap[w.heap.size]? = some (box (.slice none 0 0) (.int .i64 0) (.bool false) (.slice va n vc) (.slice none 0 0)) := heap_alloc_new w _
  have hc0 : Chg (fun _ => False) w (w.alloc (.cells #[.slice none 0 0, .int .i64 0, .bool false, .slice va n vc, .slice none 0 0] 36)) := (Chg.refl _ w).alloc _
  go_enter Try.func9, Try.ntmps9
  go_wp2_with fail
  refine (write_any base w.heap.size (.slice none 0 0) (.int .i64 0) (.bool false) (.slice none 0 0) (.slice va n vc) sa n m sc xs ss _ hn hm (by simp; omega) hbx (hown.alloc _) (hs.kept hc0 (fun _ _ h => h)) (fun x hx => ⟨(hne x hx).1, by have := (hne x hx).2; omega⟩)).mono ?_
  rintro e w1 ⟨rfl, g, N, cap, hW⟩
  have hc3 := box_cell hW.bx
  go_wp2
  go_ret
  refine ⟨g, N, cap, rfl, hW.own, ?_, ?_⟩
  · refine (hc0.mono (fun _ _ h => h.elim)).trans hW.chg (fun i hi h => ?_)
    rcases h with h | h
    · omega
    · exact h
  · rcases hW.lies g rfl with h | h
    · exact .inl h
    · exact .inr (by simp at h; omega)

end Go.Proofs.Qxb6602691a
