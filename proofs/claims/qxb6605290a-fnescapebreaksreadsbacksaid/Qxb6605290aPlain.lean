/-
  The plain side: breaks, what EscapeBreaks writes, what the model writes, on lists of bytes. No Go in sight.
-/
namespace Go.Proofs.Qxb6605290a

/-- A line break or a carriage return. -/
def isBrk (c : UInt8) : Bool := c == 10 || c == 13

/-- Is there one among these? -/
def hasBrk (l : List UInt8) : Bool := l.any isBrk

/-- A break's letter; every other byte is itself. -/
def low (c : UInt8) : UInt8 := if c = 10 then 110 else if c = 13 then 114 else c

/-- What one byte that no backslash escapes is written as. -/
def out1 (c : UInt8) : List UInt8 := if isBrk c then [92, low c] else [c]

/-- What EscapeBreaks writes; e: are backslashes read as escapes? -/
def eb (e : Bool) : List UInt8 → List UInt8
  | [] => []
  | [c] => out1 c
  | c :: d :: r => if e && c == 92 then 92 :: low d :: eb e r else out1 c ++ eb e (d :: r)

/-- What the model writes; p: does an odd number of backslashes stand right before? -/
def mb (e p : Bool) : List UInt8 → List UInt8
  | [] => []
  | c :: r => (if isBrk c then (if e && p then [low c] else [92, low c]) else [c]) ++ mb e (c == 92 && !p) r

theorem low_clear (c : UInt8) : isBrk (low c) = false := by
  unfold low
  split
  · decide
  · split
    · decide
    · rename_i h1 h2
      simp [isBrk, h1, h2]

theorem low_same {c : UInt8} (h : isBrk c = false) : low c = c := by
  simp [isBrk] at h
  unfold low
  rw [if_neg h.1, if_neg h.2]

theorem mb_pair (e : Bool) (he : e = true) (d : UInt8) (r : List UInt8) : mb e false (92 :: d :: r) = 92 :: low d :: mb e false r := by
  subst he
  have h92 : isBrk 92 = false := by decide
  have hp : ((92 : UInt8) == 92 && !false) = true := by decide
  rw [mb, h92, hp, mb]
  cases hd : isBrk d
  · simp [low_same hd]
  · simp

theorem eb_mb (e : Bool) : ∀ l, eb e l = mb e false l
  | [] => rfl
  | [c] => by
    rw [eb, mb, mb, out1]
    cases isBrk c <;> simp
  | c :: d :: r => by
    rw [eb]
    cases he : (e && c == 92)
    · have ih := eb_mb e (d :: r)
      rw [if_neg (by simp), ih, out1]
      generalize d :: r = t
      rw [mb]
      have hb : (if isBrk c = true then if (e && false) = true then [low c] else [92, low c] else [c]) = if isBrk c = true then [92, low c] else [c] := by simp
      rw [hb]
      cases e
      · congr 1
        have hz : ∀ p q l, mb false p l = mb false q l := by
          intro p q l
          induction l generalizing p q with
          | nil => rfl
          | cons a t ih => rw [mb, mb]; simp only [Bool.false_and]; rw [ih (a == 92 && !p) (a == 92 && !q)]
        exact hz _ _ _
      · have hc : (c == 92) = false := by simpa using he
        rw [hc]
        rfl
    · simp only [Bool.and_eq_true, beq_iff_eq] at he
      obtain ⟨rfl, rfl⟩ := he
      rw [if_pos rfl, mb_pair true rfl, eb_mb true r]

theorem mb_clear (e : Bool) : ∀ p l, hasBrk (mb e p l) = false := by
  intro p l
  induction l generalizing p with
  | nil => rfl
  | cons c r ih =>
    have h92 : isBrk 92 = false := by decide
    have := ih (c == 92 && !p)
    unfold hasBrk at this ⊢
    rw [mb, List.any_append, this, Bool.or_false]
    cases hc : isBrk c
    · simp [hc]
    · simp only [if_true]
      split
      · simp [low_clear]
      · simp [low_clear, h92]

theorem mb_same (e : Bool) : ∀ p l, hasBrk l = false → mb e p l = l := by
  intro p l
  induction l generalizing p with
  | nil => intro _; rfl
  | cons c r ih =>
    intro h
    unfold hasBrk at h
    rw [List.any_cons, Bool.or_eq_false_iff] at h
    rw [mb, h.1, ih _ h.2]
    simp

theorem eb_length (e : Bool) : ∀ l, (eb e l).length ≤ 2 * l.length
  | [] => by simp [eb]
  | [c] => by
    rw [eb, out1]; split <;> simp
  | c :: d :: r => by
    rw [eb]
    split
    · have := eb_length e r
      simp only [List.length_cons]
      omega
    · have := eb_length e (d :: r)
      simp only [List.length_append, List.length_cons] at this ⊢
      have h1 : (out1 c).length ≤ 2 := by unfold out1; split <;> simp
      omega

/-- Does the run's first byte open a string? -/
def opens : List UInt8 → Bool
  | [] => false
  | c :: _ => c != 96

theorem eb_esc (d : UInt8) (r : List UInt8) : eb true (92 :: d :: r) = 92 :: low d :: eb true r := by
  rw [eb, if_pos (by decide)]

theorem eb_brk (e : Bool) (c : UInt8) (r : List UInt8) (h : isBrk c = true) : eb e (c :: r) = 92 :: low c :: eb e r := by
  have hc : (c == 92) = false := by
    rw [beq_eq_false_iff_ne]
    rintro rfl
    revert h; decide
  cases r with
  | nil => simp [eb, out1, h]
  | cons d t => rw [eb, if_neg (by rw [hc]; simp), out1, if_pos h]; rfl

theorem eb_plain (e : Bool) (c : UInt8) (r : List UInt8) (h : isBrk c = false) (h2 : (e && c == 92) = false ∨ r = []) : eb e (c :: r) = c :: eb e r := by
  cases r with
  | nil => simp [eb, out1, h]
  | cons d t =>
    rcases h2 with h2 | h2
    · rw [eb, if_neg (by rw [h2]; simp), out1, h]; rfl
    · cases h2

theorem drop_at (l : List UInt8) (k : Nat) (x : UInt8) (h : l[k]? = some x) : l.drop k = x :: l.drop (k + 1) := by
  obtain ⟨hk, rfl⟩ := List.getElem?_eq_some_iff.1 h
  exact List.drop_eq_getElem_cons hk

/-- Does an odd number of backslashes stand at the end? -/
def par (l : List UInt8) : Bool := l.foldl (fun p c => c == 92 && !p) false

theorem par_snoc (l : List UInt8) (c : UInt8) : par (l ++ [c]) = (c == 92 && !par l) := by simp [par]

theorem take_at (l : List UInt8) (k : Nat) (x : UInt8) (h : l[k]? = some x) : l.take (k + 1) = l.take k ++ [x] := by
  obtain ⟨hk, rfl⟩ := List.getElem?_eq_some_iff.1 h
  exact List.take_succ_eq_append_getElem hk

/-- t backslashes stand before place i, and no further one. -/
theorem par_of (l : List UInt8) (t m : Nat) (h : ∀ q, m ≤ q → q < m + t → l[q]? = some 92) (h0 : m = 0 ∨ ∃ x, l[m - 1]? = some x ∧ ¬ x = 92) : par (l.take (m + t)) = (t % 2 == 1) := by
  induction t with
  | zero =>
    rcases h0 with rfl | ⟨x, hx, hn⟩
    · simp [par]
    · cases m with
      | zero => simp [par]
      | succ m =>
        rw [Nat.add_zero, take_at l m x (by simpa using hx), par_snoc]
        simp [hn]
  | succ t ih =>
    rw [← Nat.add_assoc, take_at l (m + t) 92 (h (m + t) (by omega) (by omega)), par_snoc, ih (fun q h1 h2 => h q h1 (by omega))]
    rw [Bool.eq_iff_iff]
    simp
    omega

theorem mb_step (e : Bool) (l : List UInt8) (k : Nat) (x : UInt8) (h : l[k]? = some x) :
    mb e (par (l.take k)) (l.drop k) = (if isBrk x then (if e && par (l.take k) then [low x] else [92, low x]) else [x]) ++ mb e (par (l.take (k + 1))) (l.drop (k + 1)) := by
  rw [drop_at l k x h, mb, take_at l k x h, par_snoc]

end Go.Proofs.Qxb6605290a
