/-
  The plain side of quoted runs: which bodies are well formed, what they stand for, what becomes of both under EscapeBreaks. No Go in sight.
-/
import Derived.Test.Qxb6605290aPlain
namespace Go.Proofs.Qxb6605290a

/-- Is this the body of a terminated run with the quote q? -/
def wfb (e : Bool) (q : UInt8) : List UInt8 → Bool
  | [] => true
  | [c] => !(c == q) && !(e && c == 92)
  | c :: d :: r => if c == q then d == q && wfb e q r else if e && c == 92 then wfb e q r else wfb e q (d :: r)

/-- The byte that an escape names. -/
def une (d : UInt8) : UInt8 := if d = 48 then 0 else if d = 98 then 8 else if d = 110 then 10 else if d = 114 then 13 else if d = 116 then 9 else if d = 90 then 26 else d

/-- Does the backslash stay? -/
def keep (d : UInt8) : Bool := d == 37 || d == 95

/-- What an escape stands for. -/
def unx (d : UInt8) : List UInt8 := if keep d then [92, d] else [une d]

/-- What the body of a run stands for. -/
def unq (e : Bool) (q : UInt8) : List UInt8 → List UInt8
  | [] => []
  | [c] => [c]
  | c :: d :: r => if c == q then q :: unq e q r else if e && c == 92 then unx d ++ unq e q r else c :: unq e q (d :: r)

/-- Each break shown as a backslash and its letter. -/
def shown (l : List UInt8) : List UInt8 := l.flatMap out1

theorem shown_append (a b : List UInt8) : shown (a ++ b) = shown a ++ shown b := by simp [shown]

theorem out1_plain {c : UInt8} (h : isBrk c = false) : out1 c = [c] := by simp [out1, h]
theorem out1_brk {c : UInt8} (h : isBrk c = true) : out1 c = [92, low c] := by simp [out1, h]

theorem brk_two {c : UInt8} (h : isBrk c = true) : c = 10 ∨ c = 13 := by simpa [isBrk] using h

theorem unx_low (d : UInt8) : unx (low d) = unx d := by
  by_cases h : isBrk d = true
  · rcases brk_two h with rfl | rfl <;> decide
  · rw [low_same (by simpa using h)]

theorem unx_brk {c : UInt8} (h : isBrk c = true) : unx (low c) = [c] := by
  rcases brk_two h with rfl | rfl <;> decide

/-- One step of each function at a byte that is no quote and no escape. -/
theorem wfb_plain (e : Bool) (q c : UInt8) (r : List UInt8) (h : (c == q) = false) (h2 : (e && c == 92) = false) : wfb e q (c :: r) = wfb e q r := by
  cases r with
  | nil => simp [wfb, h, h2]
  | cons d t => simp [wfb, h, h2]

theorem unq_plain (e : Bool) (q c : UInt8) (r : List UInt8) (h : (c == q) = false) (h2 : (e && c == 92) = false) : unq e q (c :: r) = c :: unq e q r := by
  cases r with
  | nil => simp [unq]
  | cons d t => simp [unq, h, h2]

theorem wfb_esc (q d : UInt8) (r : List UInt8) (h : ((92 : UInt8) == q) = false) : wfb true q (92 :: d :: r) = wfb true q r := by simp [wfb, h]
theorem unq_esc (q d : UInt8) (r : List UInt8) (h : ((92 : UInt8) == q) = false) : unq true q (92 :: d :: r) = unx d ++ unq true q r := by simp [unq, h]
theorem wfb_quote (e : Bool) (q : UInt8) (r : List UInt8) : wfb e q (q :: q :: r) = wfb e q r := by simp [wfb]
theorem unq_quote (e : Bool) (q : UInt8) (r : List UInt8) : unq e q (q :: q :: r) = q :: unq e q r := by simp [unq]

/-- All that is asked of the quote. -/
structure Quote (e : Bool) (q : UInt8) : Prop where
  brk : isBrk q = false
  bs : ((92 : UInt8) == q) = false
  esc : e = (q != 96)

theorem Quote.sb {e : Bool} {q : UInt8} (h : Quote e q) : (q == 92) = false := by
  have := h.bs
  rw [beq_eq_false_iff_ne] at this ⊢
  exact fun e => this e.symm

theorem eb_q (e : Bool) (q : UInt8) (h : Quote e q) (r : List UInt8) : eb e (q :: r) = q :: eb e r :=
  eb_plain e q r h.brk (.inl (by rw [h.sb]; simp))

/-- The letter of a break is no backquote. -/
theorem low_ne {c : UInt8} (h : isBrk c = true) : (low c == 96) = false ∧ (low c == 92) = false := by
  rcases brk_two h with rfl | rfl <;> decide

/-- WHAT ESCAPEBREAKS DOES TO A WELL-FORMED BODY: it stays well formed, and stands for the same (a name: for what is shown); and the closing quote is not touched. -/
theorem body_law (e : Bool) (q : UInt8) (hq : Quote e q) : ∀ l : List UInt8, wfb e q l = true →
    wfb e q (eb e l) = true ∧ unq e q (eb e l) = (if e then unq e q l else shown (unq e q l)) ∧ eb e (l ++ [q]) = eb e l ++ [q]
  | [], _ => by
    refine ⟨rfl, ?_, ?_⟩
    · cases e <;> rfl
    · rw [List.nil_append, eb_q e q hq]; rfl
  | [c], h => by
    simp only [wfb, Bool.and_eq_true, Bool.not_eq_true'] at h
    obtain ⟨hc, he⟩ := h
    have hE : eb e ([c] ++ [q]) = eb e [c] ++ [q] := by
      show eb e (c :: [q]) = _
      by_cases hb : isBrk c = true
      · rw [eb_brk e c _ hb, eb_brk e c _ hb, eb_q e q hq]; rfl
      · have hb' : isBrk c = false := by simpa using hb
        rw [eb_plain e c _ hb' (.inl he), eb_plain e c _ hb' (.inl he), eb_q e q hq]; rfl
    refine ⟨?_, ?_, hE⟩
    · by_cases hb : isBrk c = true
      · rw [eb_brk e c _ hb]
        cases e with
        | true => rw [show eb true [] = [] from rfl, wfb_esc q _ _ hq.bs]; rfl
        | false =>
          have h96 : q = 96 := by have := hq.esc; simpa using this.symm
          rw [show eb false [] = [] from rfl, wfb_plain false q 92 _ hq.bs (by simp), wfb_plain false q _ _ (by rw [h96]; exact (low_ne hb).1) (by simp)]; rfl
      · have hb' : isBrk c = false := by simpa using hb
        rw [eb_plain e c _ hb' (.inl he), show eb e [] = [] from rfl, wfb_plain e q c _ hc he]; rfl
    · by_cases hb : isBrk c = true
      · rw [eb_brk e c _ hb]
        cases e with
        | true =>
          rw [show eb true [] = [] from rfl, unq_esc q _ _ hq.bs, unx_brk hb]
          simp [unq]
        | false =>
          have h96 : q = 96 := by have := hq.esc; simpa using this.symm
          rw [show eb false [] = [] from rfl, unq_plain false q 92 _ hq.bs (by simp)]
          simp [unq, shown, out1_brk hb]
      · have hb' : isBrk c = false := by simpa using hb
        rw [eb_plain e c _ hb' (.inl he), show eb e [] = [] from rfl]
        cases e <;> simp [unq, shown, out1_plain hb']
  | c :: d :: r, h => by
    by_cases hc : c = q
    · subst hc
      simp only [wfb, beq_self_eq_true, if_true, Bool.and_eq_true, beq_iff_eq] at h
      obtain ⟨rfl, h⟩ := h
      obtain ⟨i1, i2, i3⟩ := body_law e d hq r h
      refine ⟨?_, ?_, ?_⟩
      · rw [eb_q e d hq, eb_q e d hq, wfb_quote]; exact i1
      · rw [eb_q e d hq, eb_q e d hq, unq_quote, unq_quote, i2]
        cases e
        · simp [shown, out1_plain hq.brk]
        · rfl
      · rw [List.cons_append, List.cons_append, eb_q e d hq, eb_q e d hq, i3, eb_q e d hq, eb_q e d hq]; rfl
    · have hc' : (c == q) = false := by simpa using hc
      by_cases he : (e && c == 92) = true
      · simp only [Bool.and_eq_true, beq_iff_eq] at he
        obtain ⟨rfl, rfl⟩ := he
        rw [wfb_esc q d r hq.bs] at h
        obtain ⟨i1, i2, i3⟩ := body_law true q hq r h
        refine ⟨?_, ?_, ?_⟩
        · rw [eb_esc, wfb_esc q _ _ hq.bs]; exact i1
        · rw [eb_esc, unq_esc q _ _ hq.bs, unq_esc q _ _ hq.bs, unx_low, i2]; rfl
        · rw [List.cons_append, List.cons_append, eb_esc, eb_esc, i3]; rfl
      · have he' : (e && c == 92) = false := by simpa using he
        rw [wfb_plain e q c _ hc' he'] at h
        obtain ⟨i1, i2, i3⟩ := body_law e q hq (d :: r) h
        by_cases hb : isBrk c = true
        · refine ⟨?_, ?_, ?_⟩
          · rw [eb_brk e c _ hb]
            cases e with
            | true => rw [wfb_esc q _ _ hq.bs]; exact i1
            | false =>
              have h96 : q = 96 := by have := hq.esc; simpa using this.symm
              rw [wfb_plain false q 92 _ hq.bs (by simp), wfb_plain false q _ _ (by rw [h96]; exact (low_ne hb).1) (by simp)]; exact i1
          · rw [eb_brk e c _ hb, unq_plain e q c _ hc' he']
            cases e with
            | true => rw [unq_esc q _ _ hq.bs, unx_brk hb, i2]; rfl
            | false =>
              have h96 : q = 96 := by have := hq.esc; simpa using this.symm
              rw [unq_plain false q 92 _ hq.bs (by simp), unq_plain false q _ _ (by rw [h96]; exact (low_ne hb).1) (by simp), i2]
              simp [shown, out1_brk hb]
          · rw [List.cons_append, eb_brk e c _ hb, eb_brk e c _ hb, i3]; rfl
        · have hb' : isBrk c = false := by simpa using hb
          refine ⟨?_, ?_, ?_⟩
          · rw [eb_plain e c _ hb' (.inl he'), wfb_plain e q c _ hc' he']; exact i1
          · rw [eb_plain e c _ hb' (.inl he'), unq_plain e q c _ hc' he', unq_plain e q c _ hc' he', i2]
            cases e
            · simp [shown, out1_plain hb']
            · rfl
          · rw [List.cons_append, eb_plain e c _ hb' (.inl he'), eb_plain e c _ hb' (.inl he'), i3]; rfl

end Go.Proofs.Qxb6605290a
