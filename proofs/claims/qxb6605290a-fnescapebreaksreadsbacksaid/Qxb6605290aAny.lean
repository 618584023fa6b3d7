/-
  strings.IndexAny (31), strings.ContainsAny (21) at the constant of a line break and a carriage return: every string.
-/
import Derived.Test.Qxb6605290aRune
import Derived.Test.Qxb6605290aPlain
import Derived.Lib.OthersKept
import Derived.Lib.IndexAny
import Derived.WalkSmall
namespace Go.Proofs.Qxb6605290a
open Go.RowKit

theorem contains_brk (c : UInt8) : ([10, 13] : List UInt8).contains c = isBrk c := by
  unfold isBrk
  rw [Bool.eq_iff_iff]
  simp

/-- Where a byte of 128 or more stands, the runes' walk passes over bytes of 128 or more alone. -/
theorem decode_skip (s : ByteArray) (pos : Nat) (h : pos < s.size) (ha : 128 ≤ (s[pos]'h).toNat) :
    pos + (Utf8.decode s pos).2 ≤ s.size ∧ ∀ j, pos ≤ j → j < pos + (Utf8.decode s pos).2 → ∀ hj : j < s.size, 128 ≤ (s[j]'hj).toNat := by
  have hn : ¬ (s[pos]'h).toNat < 128 := by omega
  have hg : ∀ k (hk : pos + k < s.size), s.get! (pos + k) = s[pos + k]'hk := fun k hk => by
    simp [ByteArray.get!, getElem!_pos, hk]; rfl
  have key : ∀ n, 1 ≤ n → (∀ k, 1 ≤ k → k < n → pos + k < s.size ∧ (s.get! (pos + k)).toNat / 64 = 2) →
      pos + n ≤ s.size ∧ ∀ j, pos ≤ j → j < pos + n → ∀ hj : j < s.size, 128 ≤ (s[j]'hj).toNat := by
    intro n hn1 hk
    refine ⟨?_, ?_⟩
    · by_cases h1 : n = 1
      · omega
      · have := (hk (n - 1) (by omega) (by omega)).1
        omega
    · intro j hj0 hj1 hj
      by_cases e : j = pos
      · subst e; exact ha
      · obtain ⟨k, rfl⟩ : ∃ k, j = pos + k := ⟨j - pos, by omega⟩
        have h2 := (hk k (by omega) (by omega)).2
        rw [hg k hj] at h2
        omega
  have one := key 1 (by omega) (fun k h1 h2 => by omega)
  simp only [Utf8.decode, get_at s pos h, hn, if_false]
  split
  · rename_i hc
    simp only [Bool.and_eq_true, decide_eq_true_eq, beq_iff_eq] at hc
    split
    · exact key 2 (by omega) (fun k h1 h2 => by obtain rfl : k = 1 := by omega
                                                exact hc.2)
    · exact one
  · split
    · rename_i hc
      simp only [Bool.and_eq_true, decide_eq_true_eq, beq_iff_eq] at hc
      split
      · refine key 3 (by omega) (fun k h1 h2 => ?_)
        rcases (show k = 1 ∨ k = 2 from by omega) with rfl | rfl
        · exact hc.1.2
        · exact hc.2
      · exact one
    · split
      · rename_i hc
        simp only [Bool.and_eq_true, decide_eq_true_eq, beq_iff_eq] at hc
        split
        · refine key 4 (by omega) (fun k h1 h2 => ?_)
          rcases (show k = 1 ∨ k = 2 ∨ k = 3 from by omega) with rfl | rfl | rfl
          · exact hc.1.1.2
          · exact hc.1.2
          · exact hc.2
        · exact one
      · exact one

/-- No break among the first i bytes. -/
def Clear (s : ByteArray) (i : Nat) : Prop := ∀ j, j < i → ∀ h : j < s.size, isBrk (s[j]'h) = false

theorem Clear.zero (s : ByteArray) : Clear s 0 := fun _ h => absurd h (Nat.not_lt_zero _)

theorem hasBrk_of (s : ByteArray) (i : Nat) (h : i < s.size) (hb : isBrk (s[i]'h) = true) : hasBrk s.data.toList = true := by
  unfold hasBrk
  rw [List.any_eq_true]
  exact ⟨s[i], Array.getElem_mem_toList (xs := s.data) h, hb⟩

theorem hasBrk_none (s : ByteArray) (h : Clear s s.size) : hasBrk s.data.toList = false := by
  unfold hasBrk
  rw [List.any_eq_false]
  intro x hx
  obtain ⟨i, hi, rfl⟩ := List.getElem_of_mem hx
  have hi' : i < s.size := by rw [Array.length_toList] at hi; exact hi
  have := h i hi' hi'
  rw [Array.getElem_toList]
  exact fun e => by rw [show s.data[i] = s[i] from rfl, this] at e; cases e

theorem small_index (x : UInt8) : decide (0 ≤ Lib.indexByte [10, 13] x) = isBrk x := by
  rw [← contains_brk x]
  exact (Lib.contains_iff_indexByte [10, 13] x).symm

set_option maxRecDepth 1000000 in
set_option maxHeartbeats 1000000 in
theorem any_short (s : ByteArray) (w : World) (h8 : s.size ≤ 8) :
    Calls Try.prog 31 #[.string s, .string ⟨#[10, 13]⟩] w fun e w' => ∃ r : Int, e = .returned (.int .i64 r) ∧ decide (0 ≤ r) = hasBrk s.data.toList ∧ Below w.heap.size w w' := by
  have h8z : decide ((8 : Int) < (s.size : Int)) = false := decide_eq_false (by omega)
  go_enter Try.func31, Try.ntmps31
  go_wp2
  go_loopw [9] (fun _ wr => ∃ i : Nat, i ≤ s.size ∧ wr.heap[w.heap.size]? = some (.stringIter s i) ∧ Below w.heap.size w wr ∧ Clear s i) (fun _ wr => s.size - wr.iterPos w.heap.size)
  case atStart => exact ⟨0, Nat.zero_le _, World.iter_heap w s 0, below_iter w s 0, Clear.zero s⟩
  case round =>
    obtain ⟨i, hi, hit, hbw, hcl⟩ := hrel
    have hsz : w.heap.size < wr.heap.size := (Array.getElem?_eq_some_iff.1 hit).1
    have HC : Hid (Clear s i) := hcl
    clear hcl
    by_cases hp : i < s.size
    · obtain ⟨x, hx⟩ : ∃ x : UInt8, s[i]'hp = x := ⟨_, rfl⟩
      have HX : Hid (s[i]'hp = x) := hx
      by_cases h128 : x.toNat < 128
      · have hnx := fun ty => Lib.run_next_ascii_at (P := Try.prog) wr w.heap.size s i ty hit hp (by rw [hx]; exact h128)
        rw [hx] at hnx
        have hit2 := Lib.iterAt_heap wr w.heap.size s i (i + 1) hit
        have hbw2 := Lib.below_iterAt hbw (k := w.heap.size) (Nat.le_refl _) s (i + 1)
        clear hx
        generalize hW : wr.iterAt w.heap.size s (i + 1) = W at *
        clear hW
        have hback : ((x.toNat : Int)).toNat.toUInt8 = x := by simp
        cases hb : isBrk x
        · have hlt : ¬ ((0 : Int) ≤ Lib.indexByte [10, 13] x) := of_decide_eq_false (by rw [small_index, hb])
          go_wp2_with (go_at_call 37; refine (Try.strings_IndexRune_ascii _ _ _ (by omega) (by omega)).mono ?_; rintro e w' ⟨rfl, rfl⟩; rw [hback])
          go_roundw
          case rel =>
            refine ⟨_, _, _, _, _, _, _, _, _, _, _, _, ⟨i + 1, by omega, hit2, hbw2, fun j hj hjs => ?_⟩, rfl⟩
            by_cases e : j = i
            · subst e; rw [HX.out]; exact hb
            · exact HC.out j (by omega) hjs
          case measure => rw [iterPos_of hit2, iterPos_of hit]; omega
        · have hge : (0 : Int) ≤ Lib.indexByte [10, 13] x := of_decide_eq_true (by rw [small_index, hb])
          go_wp2_with (go_at_call 37; refine (Try.strings_IndexRune_ascii _ _ _ (by omega) (by omega)).mono ?_; rintro e w' ⟨rfl, rfl⟩; rw [hback])
          go_ret
          refine ⟨_, rfl, ?_, hbw2⟩
          rw [hasBrk_of s i hp (by rw [HX.out]; exact hb)]
          exact decide_eq_true (by omega)
      · have hnx := fun ty => Lib.run_next_any_at (P := Try.prog) wr w.heap.size s i ty hit hp
        have hh : 128 ≤ (s[i]'hp).toNat := by rw [hx]; omega
        obtain ⟨hd1, hd2⟩ := decode_high s i hp hh
        have hd3 := decode_le s i
        obtain ⟨hs1, hs2⟩ := decode_skip s i hp hh
        have hit2 := Lib.iterAt_heap wr w.heap.size s i (i + (Utf8.decode s i).2) hit
        have hbw2 := Lib.below_iterAt hbw (k := w.heap.size) (Nat.le_refl _) s (i + (Utf8.decode s i).2)
        have hsz2 : w.heap.size < (wr.iterAt w.heap.size s (i + (Utf8.decode s i).2)).heap.size := by rw [Lib.iterAt_size]; exact hsz
        have HS : Hid (∀ j, i ≤ j → j < i + (Utf8.decode s i).2 → ∀ hj : j < s.size, 128 ≤ (s[j]'hj).toNat) := hs2
        clear hx hs2 hh
        generalize hW : wr.iterAt w.heap.size s (i + (Utf8.decode s i).2) = W at *
        clear hW
        generalize hD : (Utf8.decode s i).1 = r at *
        generalize hE : (Utf8.decode s i).2 = k at *
        clear hD hE
        go_wp2_with (go_at_call 37; refine (rune_high _ _ (by omega) (by omega)).mono ?_; rintro e w1 ⟨rfl, hb1⟩)
        go_roundw
        case rel =>
          refine ⟨_, _, _, _, _, _, _, _, _, _, _, _, ⟨i + k, hs1, by rw [hb1.block _ hsz2]; exact hit2, hbw2.trans (hb1.mono (by omega)), fun j hj hjs => ?_⟩, rfl⟩
          by_cases e : j < i
          · exact HC.out j e hjs
          · have := HS.out j (by omega) hj hjs
            unfold isBrk
            rw [Bool.or_eq_false_iff, beq_eq_false_iff_ne, beq_eq_false_iff_ne]
            refine ⟨fun e => ?_, fun e => ?_⟩
            · rw [e] at this; revert this; decide
            · rw [e] at this; revert this; decide
        case measure => rw [iterPos_of hit, iterPos_of (by rw [hb1.block _ hsz2]; exact hit2)]; omega
    · have hnx := fun ty => Lib.run_next_end_at (P := Try.prog) wr w.heap.size s i ty hit hp
      go_wp2
      go_ret
      refine ⟨-1, rfl, ?_, hbw⟩
      obtain rfl : i = s.size := by omega
      rw [hasBrk_none s HC.out]
      rfl

theorem indexAny_brk : ∀ l : List UInt8, decide (0 ≤ Lib.indexAny l [10, 13]) = hasBrk l
  | [] => rfl
  | b :: l => by
    have ih := indexAny_brk l
    have hg := Lib.indexAny_ge [10, 13] l
    unfold hasBrk at ih ⊢
    rw [List.any_cons, ← ih, Lib.indexAny, contains_brk]
    cases hb : isBrk b
    · simp only [Bool.false_eq_true, if_false, Bool.false_or]
      by_cases e : Lib.indexAny l [10, 13] = -1
      · simp [e]
      · have e' : (Lib.indexAny l [10, 13] == -1) = false := by simpa using e
        rw [e', if_neg (by simp), decide_eq_decide]
        omega
    · simp

theorem zero49 : ∀ w, (zeroValue 49).run Try.prog w = .ok (.agg (Array.replicate 256 (.bool false))) w := fun _ => by kernel_rfl

/-- strings.ContainsAny at the constant: is there a break? -/
theorem contains_any (s : ByteArray) (w : World) (hs : s.size ≤ 16777216) :
    Calls Try.prog 21 #[.string s, .string ⟨#[10, 13]⟩] w fun e w' => e = .returned (.bool (hasBrk s.data.toList)) ∧ Below w.heap.size w w' := by
  by_cases h8 : s.size ≤ 8
  · go_enter Try.func21, Try.ntmps21
    go_wp2_with (go_at_call 31; refine (any_short s _ h8).mono ?_; rintro e w' ⟨r, rfl, hr, hb⟩; have HR : Hid (decide (0 ≤ r) = hasBrk s.data.toList) := hr; clear hr)
    go_ret
    exact ⟨by rw [← HR.out]; rfl, hb⟩
  · go_enter Try.func21, Try.ntmps21
    go_wp2_with (go_at_call 31; refine (Try.strings_IndexAny_long zero49 s ⟨#[10, 13]⟩ _ (by decide) (by omega) (by omega) (by decide) (fun j b hj => by match j, hj with | 0, hj => simp at hj; subst hj; decide | 1, hj => simp at hj; subst hj; decide)).mono ?_; rintro e w' ⟨rfl, rfl⟩)
    go_ret
    exact ⟨by rw [← indexAny_brk]; rfl, ((Below.refl _ _).alloc (Nat.le_refl _) _).alloc (by simp) _⟩

end Go.Proofs.Qxb6605290a
