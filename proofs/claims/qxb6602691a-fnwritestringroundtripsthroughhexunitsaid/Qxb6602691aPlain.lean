/-
  The plain side: RFC 8785's table for one byte, on numbers and lists. No Go in sight.
-/
namespace Go.Proofs.Qxb6602691a

/-- The lower-case hexadecimal digit. -/
def hx (d : Int) : Int := if d < 10 then 48 + d else 87 + d

/-- What one byte is written as. -/
def esc (b : Int) : List Int :=
  if b = 34 then [92, 34] else if b = 92 then [92, 92] else if b = 8 then [92, 98] else if b = 9 then [92, 116] else if b = 10 then [92, 110]
  else if b = 12 then [92, 102] else if b = 13 then [92, 114] else if b < 32 then [92, 117, 48, 48, hx (b / 16), hx (b % 16)] else [b]

theorem esc_len (b : Int) : 1 ≤ (esc b).length ∧ (esc b).length ≤ 6 := by
  unfold esc
  repeat' split
  all_goals simp

/-- What the first bytes are written as. -/
def escs (l : List Int) : List Int := l.flatMap esc

theorem escs_snoc (l : List Int) (b : Int) : escs (l ++ [b]) = escs l ++ esc b := by simp [escs]

theorem escs_len (l : List Int) : (escs l).length ≤ 6 * l.length := by
  induction l with
  | nil => simp [escs]
  | cons a t ih =>
    have := (esc_len a).2
    simp only [escs, List.flatMap_cons, List.length_append, List.length_cons] at ih ⊢
    omega

theorem hx_range (d : Int) (h0 : 0 ≤ d) (h1 : d ≤ 15) : 0 ≤ hx d ∧ hx d ≤ 255 := by unfold hx; split <;> omega

theorem esc_range (b : Int) (h0 : 0 ≤ b) (h1 : b ≤ 255) : ∀ n ∈ esc b, 0 ≤ n ∧ n ≤ 255 := by
  unfold esc
  repeat' split
  all_goals intro n hn
  all_goals simp at hn
  case isFalse.isFalse.isFalse.isFalse.isFalse.isFalse.isFalse.isTrue =>
    have h2 := hx_range (b / 16) (by omega) (by omega)
    have h3 := hx_range (b % 16) (by omega) (by omega)
    rcases hn with h | h | h | h | h <;> subst h <;> first | omega | exact h2 | exact h3
  all_goals first | omega | (rcases hn with h | h <;> omega)

theorem escs_range (l : List Int) (h : ∀ n ∈ l, 0 ≤ n ∧ n ≤ 255) : ∀ n ∈ escs l, 0 ≤ n ∧ n ≤ 255 := by
  intro n hn
  simp only [escs, List.mem_flatMap] at hn
  obtain ⟨b, hb, hn⟩ := hn
  exact esc_range b (h b hb).1 (h b hb).2 n hn

theorem take_snoc_getD (l : List Int) (k : Nat) (h : k < l.length) : l.take (k + 1) = l.take k ++ [l.getD k 0] := by
  rw [List.take_succ_eq_append_getElem h]; simp [h]

theorem getD_mem (l : List Int) (k : Nat) (h : k < l.length) : l.getD k 0 ∈ l := by
  simp [h]

end Go.Proofs.Qxb6602691a
