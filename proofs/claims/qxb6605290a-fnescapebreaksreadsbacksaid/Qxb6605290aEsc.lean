/-
  EscapeBreaks (8): its contracts.
-/
import Derived.Test.Qxb6605290aAny
namespace Go.Proofs.Qxb6605290a
open Go.RowKit

/-- A builder of the call's own that holds these bytes. -/
def Bld (B b : Nat) (acc : List UInt8) (w : World) : Prop := Lib.BuilderAt 32 5 B b (.pointer (some ⟨b, 0, none⟩)) (Lib.byteCells acc) w

theorem wb (B b : Nat) (acc : List UInt8) (c : Int) (x : UInt8) (w : World) (hc : c = x.toNat) (h : Bld B b acc w) (hl : acc.length ≤ 16777216) (hB : B ≤ w.heap.size) :
    Calls Try.prog 24 #[.pointer (some ⟨b, 0, none⟩), .int .u8 c] w fun e w' => e = .returned .nilIface ∧ Bld B b (acc ++ [x]) w' ∧ Below B w w' := by
  subst hc
  refine (Try.Builder_WriteByte B b (Lib.byteCells acc) x.toNat w (Or.inr h) (by rw [Lib.byteCells_length]; omega) hB).mono ?_
  rintro e w' ⟨rfl, h1, h2⟩
  refine ⟨rfl, ?_, h2⟩
  unfold Bld
  rw [Lib.byteCells_append]
  exact h1

theorem esc_none (s : ByteArray) (w : World) (hs : s.size ≤ 16777216) (h : hasBrk s.data.toList = false) :
    Calls Try.prog 8 #[.string s] w fun e w' => e = .returned (.string s) ∧ Below w.heap.size w w' := by
  go_enter Try.func8, Try.ntmps8
  go_wp2_with (go_at_call 21; refine (contains_any s _ hs).mono ?_; rintro e w' ⟨rfl, hb⟩; rw [h])
  go_ret
  exact ⟨rfl, hb⟩

theorem data_at (s : ByteArray) (k : Nat) (h : k < s.size) : s.data.toList[k]? = some (s[k]'h) := by
  rw [List.getElem?_eq_getElem (by simpa using h)]; rfl

theorem isStr (c : Int) (w : World) : Calls Try.prog 22 #[.int .u8 c] w fun e w' => e = .returned (.bool (c != 96)) ∧ w' = w := by
  go_enter Try.func22, Try.ntmps22
  go_wp2
  go_ret
  exact ⟨rfl, rfl⟩

/-- What holds of EscapeBreaks' loop at byte k. -/
def Rel (s : ByteArray) (e : Bool) (B : Nat) (w : World) (k : Nat) (wr : World) : Prop :=
  ∃ acc, Bld B B acc wr ∧ acc ++ eb e (s.data.toList.drop k) = eb e s.data.toList ∧ acc.length ≤ 2 * k ∧ B ≤ wr.heap.size ∧ Below B w wr

set_option maxHeartbeats 2000000 in
set_option maxRecDepth 100000 in
theorem esc_some (s : ByteArray) (e : Bool) (w : World) (hs : s.size ≤ 1048576) (h : hasBrk s.data.toList = true) (hp : 0 < s.size) (he : (((s[0]'hp).toNat : Int) != 96) = e) :
    Calls Try.prog 8 #[.string s] w fun r w' => r = .returned (.string ⟨(eb e s.data.toList).toArray⟩) ∧ Below w.heap.size w w' := by
  go_enter Try.func8, Try.ntmps8
  go_wp2_with (first | (go_at_call 21; refine (contains_any s _ (by omega)).mono ?_; rintro e w1 ⟨rfl, hb⟩; rw [h]) | (go_at_call 22; refine (isStr _ _).mono ?_; rintro r w2 ⟨rfl, hw⟩; have hw := hw.symm; subst hw))
  have hbk : (w1.alloc (.cells #[.pointer none, .slice none 0 0] 32)).heap[w1.heap.size]? = some (.cells #[.pointer none, .slice none 0 0] 32 (0, 0)) := heap_alloc_new w1 _
  refine (Try.Builder_Grow_fresh w1.heap.size w1.heap.size s.size _ (Nat.le_refl _) hbk (by simp) (by omega)).mono ?_
  rintro r w2 ⟨rfl, hB0, hbl0⟩
  have hR0 : Rel s e w1.heap.size w1 0 w2 := ⟨[], hB0, by simp, by simp, by have := hbl0.size; simp at this; omega, ((Below.refl _ w1).alloc (Nat.le_refl _) _).trans hbl0⟩
  clear hbk hB0 hbl0
  go_wp2
  go_loopw [5] (fun i wr => ∃ k : Nat, k ≤ s.size ∧ i = .int .i64 k ∧ Rel s e w1.heap.size w1 k wr) (fun i _ => s.size - (intOf i).toNat)
  case atStart => exact ⟨0, Nat.zero_le _, rfl, hR0⟩
  case round =>
    clear hR0
    obtain ⟨k, hk, rfl, acc, hbd, hacc, hal, hBz, hbl⟩ := hrel
    have HA : Hid (acc ++ eb e (s.data.toList.drop k) = eb e s.data.toList) := hacc
    clear hacc
    generalize hBB : w1.heap.size = B at *
    by_cases hlt : k < s.size
    · obtain ⟨x, hx⟩ : ∃ x : UInt8, s[k]'hlt = x := ⟨_, rfl⟩
      have HX : Hid (s.data.toList[k]? = some x) := by unfold Hid; rw [← hx]; exact data_at s k hlt
      have hlt' : (k : Int) < (s.size : Int) := by omega
      by_cases hA : x = 92 ∧ e = true ∧ k + 1 < s.size
      · obtain ⟨rfl, rfl, hk1⟩ := hA
        obtain ⟨d, hd⟩ : ∃ d : UInt8, s[k + 1]'hk1 = d := ⟨_, rfl⟩
        have HD : Hid (s.data.toList[k + 1]? = some d) := by unfold Hid; rw [← hd]; exact data_at s (k + 1) hk1
        have HF : Hid (acc ++ [92] ++ [low d] ++ eb true (s.data.toList.drop (k + 2)) = eb true s.data.toList) := by
          unfold Hid
          rw [← HA.out, drop_at _ k 92 HX.out, drop_at _ (k + 1) d HD.out, eb_esc]
          simp
        have hk1' : (k : Int) + 1 < (s.size : Int) := by omega
        clear HA HX HD
        by_cases d10 : d = 10
        · subst d10
          go_wp2_with fail
          refine (wb B B acc 92 92 _ rfl hbd (by omega) hBz).mono ?_
          rintro r w3 ⟨rfl, hbd3, hb3⟩
          have hBz3 : B ≤ w3.heap.size := Nat.le_trans hBz hb3.size
          go_wp2_with fail
          refine (wb B B (acc ++ [92]) 110 110 _ rfl hbd3 (by simp; omega) hBz3).mono ?_
          rintro r w4 ⟨rfl, hbd4, hb4⟩
          have hBz4 : B ≤ w4.heap.size := Nat.le_trans hBz3 hb4.size
          have hbl4 : Below B w1 w4 := (hbl.trans hb3).trans hb4
          clear hbd hbd3 hb3 hb4 hbl
          go_wp2
          go_roundw
          case rel => exact ⟨k + 2, by omega, by go_num, acc ++ [92] ++ [110], hbd4, HF.out, by simp; omega, hBz4, hbl4⟩
          case measure => simp [intOf]; omega
        by_cases d13 : d = 13
        · subst d13
          go_wp2_with fail
          refine (wb B B acc 92 92 _ rfl hbd (by omega) hBz).mono ?_
          rintro r w3 ⟨rfl, hbd3, hb3⟩
          have hBz3 : B ≤ w3.heap.size := Nat.le_trans hBz hb3.size
          go_wp2_with fail
          refine (wb B B (acc ++ [92]) 114 114 _ rfl hbd3 (by simp; omega) hBz3).mono ?_
          rintro r w4 ⟨rfl, hbd4, hb4⟩
          have hBz4 : B ≤ w4.heap.size := Nat.le_trans hBz3 hb4.size
          have hbl4 : Below B w1 w4 := (hbl.trans hb3).trans hb4
          clear hbd hbd3 hb3 hb4 hbl
          go_wp2
          go_roundw
          case rel => exact ⟨k + 2, by omega, by go_num, acc ++ [92] ++ [114], hbd4, HF.out, by simp; omega, hBz4, hbl4⟩
          case measure => simp [intOf]; omega
        have n10 : ((d.toNat : Int) == 10) = false := by
          rw [beq_eq_false_iff_ne]
          exact fun e => d10 (UInt8.toNat_inj.1 (by have : d.toNat = 10 := by omega
                                                    rw [this]; rfl))
        have n13 : ((d.toNat : Int) == 13) = false := by
          rw [beq_eq_false_iff_ne]
          exact fun e => d13 (UInt8.toNat_inj.1 (by have : d.toNat = 13 := by omega
                                                    rw [this]; rfl))
        have hlow : low d = d := by unfold low; rw [if_neg d10, if_neg d13]
        rw [hlow] at HF
        clear hlow d10 d13
        go_wp2_with fail
        refine (wb B B acc 92 92 _ rfl hbd (by omega) hBz).mono ?_
        rintro r w3 ⟨rfl, hbd3, hb3⟩
        have hBz3 : B ≤ w3.heap.size := Nat.le_trans hBz hb3.size
        go_wp2_with fail
        refine (wb B B (acc ++ [92]) (d.toNat : Int) d _ rfl hbd3 (by simp; omega) hBz3).mono ?_
        rintro r w4 ⟨rfl, hbd4, hb4⟩
        have hBz4 : B ≤ w4.heap.size := Nat.le_trans hBz3 hb4.size
        have hbl4 : Below B w1 w4 := (hbl.trans hb3).trans hb4
        clear hbd hbd3 hb3 hb4 hbl
        go_wp2
        go_roundw
        case rel => exact ⟨k + 2, by omega, by go_num, acc ++ [92] ++ [d], hbd4, HF.out, by simp; omega, hBz4, hbl4⟩
        case measure => simp [intOf]; omega
      by_cases x10 : x = 10
      · subst x10
        have HF : Hid (acc ++ [92] ++ [110] ++ eb e (s.data.toList.drop (k + 1)) = eb e s.data.toList) := by
          unfold Hid
          rw [← HA.out, drop_at _ k 10 HX.out, eb_brk e 10 _ (by decide), show low 10 = 110 from rfl]
          simp
        clear HA HX hA
        go_wp2_with fail
        refine (wb B B acc 92 92 _ rfl hbd (by omega) hBz).mono ?_
        rintro r w3 ⟨rfl, hbd3, hb3⟩
        have hBz3 : B ≤ w3.heap.size := Nat.le_trans hBz hb3.size
        go_wp2_with fail
        refine (wb B B (acc ++ [92]) 110 110 _ rfl hbd3 (by simp; omega) hBz3).mono ?_
        rintro r w4 ⟨rfl, hbd4, hb4⟩
        have hBz4 : B ≤ w4.heap.size := Nat.le_trans hBz3 hb4.size
        have hbl4 : Below B w1 w4 := (hbl.trans hb3).trans hb4
        clear hbd hbd3 hb3 hb4 hbl
        go_wp2
        go_roundw
        case rel => exact ⟨k + 1, by omega, by go_num, acc ++ [92] ++ [110], hbd4, HF.out, by simp; omega, hBz4, hbl4⟩
        case measure => simp [intOf]; omega
      by_cases x13 : x = 13
      · subst x13
        have HF : Hid (acc ++ [92] ++ [114] ++ eb e (s.data.toList.drop (k + 1)) = eb e s.data.toList) := by
          unfold Hid
          rw [← HA.out, drop_at _ k 13 HX.out, eb_brk e 13 _ (by decide), show low 13 = 114 from rfl]
          simp
        clear HA HX hA
        go_wp2_with fail
        refine (wb B B acc 92 92 _ rfl hbd (by omega) hBz).mono ?_
        rintro r w3 ⟨rfl, hbd3, hb3⟩
        have hBz3 : B ≤ w3.heap.size := Nat.le_trans hBz hb3.size
        go_wp2_with fail
        refine (wb B B (acc ++ [92]) 114 114 _ rfl hbd3 (by simp; omega) hBz3).mono ?_
        rintro r w4 ⟨rfl, hbd4, hb4⟩
        have hBz4 : B ≤ w4.heap.size := Nat.le_trans hBz3 hb4.size
        have hbl4 : Below B w1 w4 := (hbl.trans hb3).trans hb4
        clear hbd hbd3 hb3 hb4 hbl
        go_wp2
        go_roundw
        case rel => exact ⟨k + 1, by omega, by go_num, acc ++ [92] ++ [114], hbd4, HF.out, by simp; omega, hBz4, hbl4⟩
        case measure => simp [intOf]; omega
      have hnb : isBrk x = false := by simp [isBrk, x10, x13]
      have HF : Hid (acc ++ [x] ++ eb e (s.data.toList.drop (k + 1)) = eb e s.data.toList) := by
        unfold Hid
        rw [← HA.out, drop_at _ k x HX.out, eb_plain e x _ hnb ?_]
        · simp
        · by_cases h92 : (e && x == 92) = false
          · exact .inl h92
          · simp only [Bool.not_eq_false, Bool.and_eq_true, beq_iff_eq] at h92
            refine .inr (List.drop_eq_nil_of_le ?_)
            have : ¬ k + 1 < s.size := fun hh => hA ⟨h92.2, h92.1, hh⟩
            simp only [Array.length_toList]
            show s.data.size ≤ k + 1
            exact Nat.le_of_not_lt this
      have n10 : ((x.toNat : Int) == 10) = false := by
        rw [beq_eq_false_iff_ne]
        exact fun e => x10 (UInt8.toNat_inj.1 (by have : x.toNat = 10 := by omega
                                                  rw [this]; rfl))
      have n13 : ((x.toNat : Int) == 13) = false := by
        rw [beq_eq_false_iff_ne]
        exact fun e => x13 (UInt8.toNat_inj.1 (by have : x.toNat = 13 := by omega
                                                  rw [this]; rfl))
      clear HA HX x10 x13 hnb
      by_cases x92 : x = 92
      · subst x92
        cases e with
        | false =>
          clear hA n10 n13
          go_wp2_with fail
          refine (wb B B acc 92 92 _ rfl hbd (by omega) hBz).mono ?_
          rintro r w4 ⟨rfl, hbd4, hb4⟩
          have hBz4 : B ≤ w4.heap.size := Nat.le_trans hBz hb4.size
          have hbl4 : Below B w1 w4 := hbl.trans hb4
          clear hbd hb4 hbl
          go_wp2
          go_roundw
          case rel => exact ⟨k + 1, by omega, by go_num, acc ++ [92], hbd4, HF.out, by simp; omega, hBz4, hbl4⟩
          case measure => simp [intOf]; omega
        | true =>
          have hk1 : ¬ (k : Int) + 1 < (s.size : Int) := fun hh => hA ⟨rfl, rfl, by omega⟩
          clear hA n10 n13
          go_wp2_with fail
          refine (wb B B acc 92 92 _ rfl hbd (by omega) hBz).mono ?_
          rintro r w4 ⟨rfl, hbd4, hb4⟩
          have hBz4 : B ≤ w4.heap.size := Nat.le_trans hBz hb4.size
          have hbl4 : Below B w1 w4 := hbl.trans hb4
          clear hbd hb4 hbl
          go_wp2
          go_roundw
          case rel => exact ⟨k + 1, by omega, by go_num, acc ++ [92], hbd4, HF.out, by simp; omega, hBz4, hbl4⟩
          case measure => simp [intOf]; omega
      have n92 : ((x.toNat : Int) == 92) = false := by
        rw [beq_eq_false_iff_ne]
        exact fun e => x92 (UInt8.toNat_inj.1 (by have : x.toNat = 92 := by omega
                                                  rw [this]; rfl))
      clear hA x92
      go_wp2_with fail
      refine (wb B B acc (x.toNat : Int) x _ rfl hbd (by omega) hBz).mono ?_
      rintro r w4 ⟨rfl, hbd4, hb4⟩
      have hBz4 : B ≤ w4.heap.size := Nat.le_trans hBz hb4.size
      have hbl4 : Below B w1 w4 := hbl.trans hb4
      clear hbd hb4 hbl
      go_wp2
      go_roundw
      case rel => exact ⟨k + 1, by omega, by go_num, acc ++ [x], hbd4, HF.out, by simp; omega, hBz4, hbl4⟩
      case measure => simp [intOf]; omega
    · obtain rfl : k = s.size := by omega
      have HF : Hid (acc = eb e s.data.toList) := by
        unfold Hid
        rw [← HA.out, List.drop_eq_nil_of_le (by simp only [Array.length_toList]; exact Nat.le_refl _)]
        simp [eb]
      go_wp2_with fail
      refine (Try.Builder_String_any B B acc _ (Or.inr hbd) hBz).mono ?_
      rintro r w3 ⟨rfl, hb3⟩
      go_wp2
      go_ret
      refine ⟨by rw [← HF.out]; rfl, ?_⟩
      have hb' := hb.size
      exact hb.trans ((hbl.trans hb3).mono (by omega))

end Go.Proofs.Qxb6605290a
