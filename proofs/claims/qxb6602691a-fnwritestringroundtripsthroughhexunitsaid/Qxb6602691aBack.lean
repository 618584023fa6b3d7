/-
  The plain side of the round trip: where each byte's text lies in what is written.
-/
import Derived.Test.Qxb6602691aPlain
namespace Go.Proofs.Qxb6602691a

/-- What writeString writes onto nothing. -/
def quoted (ss : List Int) : List Int := [34] ++ escs ss ++ [34]

/-- Where the text of byte k begins. -/
def off (ss : List Int) (k : Nat) : Nat := 1 + (escs (ss.take k)).length

theorem quoted_len (ss : List Int) : (quoted ss).length = (escs ss).length + 2 := by simp [quoted]

theorem escs_append (a b : List Int) : escs (a ++ b) = escs a ++ escs b := by simp [escs]

theorem off_succ (ss : List Int) (k : Nat) (h : k < ss.length) : off ss (k + 1) = off ss k + (esc (ss.getD k 0)).length := by
  unfold off
  rw [take_snoc_getD ss k h, escs_snoc]
  simp
  omega

theorem split_at (ss : List Int) (k : Nat) (h : k < ss.length) : escs ss = escs (ss.take k) ++ (esc (ss.getD k 0) ++ escs (ss.drop (k + 1))) := by
  have e : ss = ss.take k ++ ([ss.getD k 0] ++ ss.drop (k + 1)) := by
    have := take_snoc_getD ss k h
    rw [← List.append_assoc, ← this, List.take_append_drop]
  have e2 : escs ss = escs (ss.take k ++ ([ss.getD k 0] ++ ss.drop (k + 1))) := by rw [← e]
  rw [e2, escs_append, escs_append]
  simp [escs]

theorem off_fits (ss : List Int) (k : Nat) (h : k < ss.length) : off ss k + (esc (ss.getD k 0)).length + 1 ≤ (quoted ss).length := by
  rw [quoted_len, split_at ss k h]
  unfold off
  simp
  omega

theorem off_end (ss : List Int) : off ss ss.length + 1 = (quoted ss).length := by
  rw [quoted_len]; unfold off; simp; omega

theorem at_off (ss : List Int) (k t : Nat) (h : k < ss.length) (ht : t < (esc (ss.getD k 0)).length) : (quoted ss).getD (off ss k + t) 0 = (esc (ss.getD k 0)).getD t 0 := by
  unfold quoted off
  rw [split_at ss k h]
  generalize ss.getD k 0 = b at *
  rw [List.getD_eq_getElem?_getD, List.getD_eq_getElem?_getD]
  congr 1
  have e1 : 1 + (escs (ss.take k)).length + t = ([34] ++ escs (ss.take k)).length + t := by simp; omega
  rw [e1, ← List.append_assoc [34], List.append_assoc, List.getElem?_append_right (by omega)]
  simp only [Nat.add_sub_cancel_left]
  rw [List.append_assoc, List.getElem?_append_left ht]

theorem quoted_first (ss : List Int) : (quoted ss).getD 0 0 = 34 := by simp [quoted]

theorem quoted_last (ss : List Int) : (quoted ss).getD ((quoted ss).length - 1) 0 = 34 := by
  unfold quoted
  simp

theorem quoted_range (ss : List Int) (h : ∀ n ∈ ss, 0 ≤ n ∧ n ≤ 255) : ∀ n ∈ quoted ss, 0 ≤ n ∧ n ≤ 255 := by
  intro n hn
  simp only [quoted, List.mem_append, List.mem_singleton] at hn
  rcases hn with (hn | hn) | hn
  · omega
  · exact escs_range ss h n hn
  · omega

end Go.Proofs.Qxb6602691a
