/-
  unescape (35), unquote (28), ZZUnquote (13): contracts.
-/
import Derived.Test.Qxb6605290aWf
import Derived.Test.Qxb6605290aParity
namespace Go.Proofs.Qxb6605290a
open Go.RowKit

theorem une_any (d : UInt8) (w : World) : Calls Try.prog 35 #[.int .u8 (d.toNat : Int)] w fun e w' => e = .returned (.tuple #[.int .u8 ((une d).toNat : Int), .bool (keep d)]) ∧ w' = w := by
  by_cases d48 : d = 48
  · subst d48
    go_enter Try.func35, Try.ntmps35
    go_wp2
    go_ret2
    exact ⟨rfl, rfl⟩
  by_cases d98 : d = 98
  · subst d98
    go_enter Try.func35, Try.ntmps35
    go_wp2
    go_ret2
    exact ⟨rfl, rfl⟩
  by_cases d110 : d = 110
  · subst d110
    go_enter Try.func35, Try.ntmps35
    go_wp2
    go_ret2
    exact ⟨rfl, rfl⟩
  by_cases d114 : d = 114
  · subst d114
    go_enter Try.func35, Try.ntmps35
    go_wp2
    go_ret2
    exact ⟨rfl, rfl⟩
  by_cases d116 : d = 116
  · subst d116
    go_enter Try.func35, Try.ntmps35
    go_wp2
    go_ret2
    exact ⟨rfl, rfl⟩
  by_cases d90 : d = 90
  · subst d90
    go_enter Try.func35, Try.ntmps35
    go_wp2
    go_ret2
    exact ⟨rfl, rfl⟩
  by_cases d37 : d = 37
  · subst d37
    go_enter Try.func35, Try.ntmps35
    go_wp2
    go_ret2
    exact ⟨rfl, rfl⟩
  by_cases d95 : d = 95
  · subst d95
    go_enter Try.func35, Try.ntmps35
    go_wp2
    go_ret2
    exact ⟨rfl, rfl⟩
  have hu : une d = d := by unfold une; rw [if_neg d48, if_neg d98, if_neg d110, if_neg d114, if_neg d116, if_neg d90]
  have hk : keep d = false := by simp [keep, d37, d95]
  rw [hu, hk]
  have n48 := ne_byte (n := 48) d48 rfl
  have n98 := ne_byte (n := 98) d98 rfl
  have n110 := ne_byte (n := 110) d110 rfl
  have n114 := ne_byte (n := 114) d114 rfl
  have n116 := ne_byte (n := 116) d116 rfl
  have n90 := ne_byte (n := 90) d90 rfl
  have n37 := ne_byte (n := 37) d37 rfl
  have n95 := ne_byte (n := 95) d95 rfl
  clear d48 d98 d110 d114 d116 d90 d37 d95 hu hk
  go_enter Try.func35, Try.ntmps35
  go_wp2
  go_ret2
  exact ⟨rfl, rfl⟩

theorem extract_body {s : ByteArray} {q z : UInt8} {body : List UInt8} (h : IsRun s q body z) : (s.extract 1 (s.size - 1)).data.toList = body := by
  have hs := h.size
  rw [ByteArray.data_extract, Array.toList_extract, h.all]
  show ((q :: (body ++ [z])).drop 1).take (s.size - 1 - 1) = body
  rw [List.drop_succ_cons, List.drop_zero, List.take_append_of_le_length (by omega)]
  exact List.take_of_length_le (by omega)

theorem quote_int {e : Bool} {q : UInt8} (h : Quote e q) : ((q.toNat : Int) != 96) = e := by
  rw [h.esc, bne, bne, show ((96 : Int)) = ((96 : UInt8).toNat : Int) from rfl, byte_eq]

theorem index_neg (l : List UInt8) (c : UInt8) (h : l.contains c = false) : Lib.indexByte l c < 0 := by
  have := Lib.contains_iff_indexByte l c
  rw [h] at this
  have := of_decide_eq_false this.symm
  omega

theorem index_pos (l : List UInt8) (c : UInt8) (h : l.contains c = true) : 0 ≤ Lib.indexByte l c := by
  have := Lib.contains_iff_indexByte l c
  rw [h] at this
  exact of_decide_eq_true this.symm

/-- Neither quote nor backslash: the body stands for itself. -/
theorem unq_fast (e : Bool) (q : UInt8) : ∀ l : List UInt8, l.contains q = false → (e = true → l.contains 92 = false) → unq e q l = l
  | [], _, _ => rfl
  | c :: r, h1, h2 => by
    rw [List.contains_cons, Bool.or_eq_false_iff] at h1
    have hc : (c == q) = false := by
      have := h1.1
      rw [beq_eq_false_iff_ne] at this ⊢
      exact fun e => this e.symm
    have he : (e && c == 92) = false := by
      cases e
      · rfl
      · have := h2 rfl
        rw [List.contains_cons, Bool.or_eq_false_iff] at this
        have := this.1
        simp only [Bool.true_and]
        rw [beq_eq_false_iff_ne] at this ⊢
        exact fun e => this e.symm
    rw [unq_plain e q c r hc he, unq_fast e q r h1.2 (fun h => by have := h2 h; rw [List.contains_cons, Bool.or_eq_false_iff] at this; exact this.2)]

set_option maxHeartbeats 2000000 in
set_option maxRecDepth 100000 in
/-- The short way: the body itself. -/
theorem unq_short (s : ByteArray) (q : UInt8) (e : Bool) (body : List UInt8) (w : World) (hr : IsRun s q body q) (hs : s.size ≤ 16777216) (hq : Quote e q) (h1 : body.contains q = false) (h2 : e = true → body.contains 92 = false) :
    Calls Try.prog 28 #[.string s] w fun r w' => r = .returned (.string ⟨(unq e q body).toArray⟩) ∧ Below w.heap.size w w' := by
  rw [unq_fast e q body h1 h2]
  have hs2 := hr.size
  have hp : 0 < s.size := by omega
  have h0 := hr.at0 hp
  have hx := extract_body hr
  have hw1 : IntKind.i64.wrap ((s.size : Int) - 1) = (s.size : Int) - 1 := by rw [IntKind.wrap_i64]; omega
  have hb1 : (1 : Int) ≤ (s.size : Int) - 1 := by omega
  have hb2 : (s.size : Int) - 1 ≤ (s.size : Int) := by omega
  have hb3 : (0 : Int) < (s.size : Int) := by omega
  have hb4 : ((s.size : Int) - 1).toNat = s.size - 1 := by omega
  have he := quote_int hq
  have hi1 := index_neg body q h1
  have hback : ((q.toNat : Int)).toNat.toUInt8 = q := by simp
  have hback2 : ((92 : Int)).toNat.toUInt8 = 92 := by decide
  have HX : Hid ((s.extract 1 (s.size - 1)).data.toList = body) := hx
  have H2 : Hid (e = true → body.contains 92 = false) := h2
  clear hs2 hx hr hq h1 h2
  generalize hT : s.extract 1 (s.size - 1) = t at *
  cases e with
  | false =>
    go_enter Try.func28, Try.ntmps28
    go_wp2
    go_quiet (fail)
    have hbl : Below w.heap.size w (w.drewN nq) := below_drews w nq
    generalize w.drewN nq = w1 at *
    go_wp2_with (first | (go_at_call 22; refine (isStr _ _).mono ?_; rintro r w2 ⟨rfl, hw⟩; have hw := hw.symm; subst hw) | (go_at_call 34; refine (Try.strings_IndexByte _ _ _).mono ?_; rintro r w2 ⟨rfl, hw⟩; have hw := hw.symm; subst hw; rw [HX.out, hback]))
    go_ret
    exact ⟨by rw [← HX.out, str_eta]; rfl, hbl⟩
  | true =>
    have hi2 := index_neg body 92 (H2.out rfl)
    go_enter Try.func28, Try.ntmps28
    go_wp2
    go_quiet (fail)
    have hbl : Below w.heap.size w (w.drewN nq) := below_drews w nq
    generalize w.drewN nq = w1 at *
    go_wp2_with (first | (go_at_call 22; refine (isStr _ _).mono ?_; rintro r w2 ⟨rfl, hw⟩; have hw := hw.symm; subst hw) | (go_at_call 34; refine (Try.strings_IndexByte _ _ _).mono ?_; rintro r w2 ⟨rfl, hw⟩; have hw := hw.symm; subst hw; rw [HX.out]; first | rw [hback] | rw [hback2]))
    go_ret
    exact ⟨by rw [← HX.out, str_eta]; rfl, hbl⟩

/-- What holds of unquote's loop at byte k of the body. -/
def URel (e : Bool) (q : UInt8) (body : List UInt8) (B : Nat) (w : World) (k : Nat) (wr : World) : Prop :=
  ∃ acc, Bld B B acc wr ∧ acc ++ unq e q (body.drop k) = unq e q body ∧ wfb e q (body.drop k) = true ∧ acc.length ≤ 2 * k ∧ B ≤ wr.heap.size ∧ Below B w wr

set_option maxHeartbeats 4000000 in
set_option maxRecDepth 100000 in
theorem unq_long1 (s : ByteArray) (q : UInt8) (e : Bool) (body : List UInt8) (w : World) (hr : IsRun s q body q) (hs : s.size ≤ 1048576 * 4) (hq : Quote e q) (hwf : wfb e q body = true) (h1 : body.contains q = true) :
    Calls Try.prog 28 #[.string s] w fun r w' => r = .returned (.string ⟨(unq e q body).toArray⟩) ∧ Below w.heap.size w w' := by
  have hs2 := hr.size
  have hp : 0 < s.size := by omega
  have h0 := hr.at0 hp
  have hx := extract_body hr
  have hw1 : IntKind.i64.wrap ((s.size : Int) - 1) = (s.size : Int) - 1 := by rw [IntKind.wrap_i64]; omega
  have hb1 : (1 : Int) ≤ (s.size : Int) - 1 := by omega
  have hb2 : (s.size : Int) - 1 ≤ (s.size : Int) := by omega
  have hb3 : (0 : Int) < (s.size : Int) := by omega
  have hb4 : ((s.size : Int) - 1).toNat = s.size - 1 := by omega
  have he := quote_int hq
  have hi1 := index_pos body q h1
  have hback : ((q.toNat : Int)).toNat.toUInt8 = q := by simp
  have hback2 : ((92 : Int)).toNat.toUInt8 = 92 := by decide
  have HX : Hid ((s.extract 1 (s.size - 1)).data.toList = body) := hx
  have HWF : Hid (wfb e q body = true) := hwf
  have hts : (s.extract 1 (s.size - 1)).size = body.length := by rw [← hx]; exact (Array.length_toList).symm
  have htl : (s.extract 1 (s.size - 1)).size ≤ 1048576 * 4 := by omega
  clear hs2 hx hr hq hwf h1
  generalize hT : s.extract 1 (s.size - 1) = t at *
  have HN : Hid (t.size = body.length) := hts
  clear hts
  go_enter Try.func28, Try.ntmps28
  go_wp2
  go_quiet (fail)
  have hbl : Below w.heap.size w (w.drewN nq) := below_drews w nq
  generalize w.drewN nq = w1 at *
  clear hT
  go_wp2_with (first | (go_at_call 22; refine (isStr _ _).mono ?_; rintro r w2 ⟨rfl, hw⟩; have hw := hw.symm; subst hw) | (go_at_call 34; refine (Try.strings_IndexByte _ _ _).mono ?_; rintro r w2 ⟨rfl, hw⟩; have hw := hw.symm; subst hw; rw [HX.out]; first | rw [hback] | rw [hback2]))
  have hbk : (w1.alloc (.cells #[.pointer none, .slice none 0 0] 32)).heap[w1.heap.size]? = some (.cells #[.pointer none, .slice none 0 0] 32 (0, 0)) := heap_alloc_new w1 _
  refine (Try.Builder_Grow_fresh w1.heap.size w1.heap.size t.size _ (Nat.le_refl _) hbk (by simp) (by omega)).mono ?_
  rintro r w2 ⟨rfl, hB0, hbl0⟩
  have hR0 : URel e q body w1.heap.size w1 0 w2 := ⟨[], hB0, by simp, by simpa using HWF.out, by simp, by have := hbl0.size; simp at this; omega, ((Below.refl _ w1).alloc (Nat.le_refl _) _).trans hbl0⟩
  clear hbk hB0 hbl0 hi1
  go_wp2
  go_loopw [7] (fun i wr => ∃ k : Nat, k ≤ t.size ∧ i = .int .i64 k ∧ URel e q body w1.heap.size w1 k wr) (fun i _ => t.size - (intOf i).toNat)
  case atStart => exact ⟨0, Nat.zero_le _, rfl, hR0⟩
  case round =>
    clear hR0
    obtain ⟨k, hk, rfl, acc, hbd, hacc, hwk, hal, hBz, hblk⟩ := hrel
    have HA : Hid (acc ++ unq e q (body.drop k) = unq e q body) := hacc
    have HW : Hid (wfb e q (body.drop k) = true) := hwk
    clear hacc hwk
    generalize hBB : w1.heap.size = B at *
    by_cases hlt : k < t.size
    · obtain ⟨x, hxx⟩ : ∃ x : UInt8, t[k]'hlt = x := ⟨_, rfl⟩
      have HK : Hid (body.drop k = x :: body.drop (k + 1)) := by
        unfold Hid; exact drop_at _ _ _ (by rw [← HX.out, data_at t k hlt, hxx])
      have hlt' : (k : Int) < (t.size : Int) := by omega
      by_cases hxq : x = q
      · subst hxq
        have hqq : ((x.toNat : Int) == (x.toNat : Int)) = true := by simp
        obtain ⟨hk2, HF, HW2⟩ : k + 2 ≤ t.size ∧ Hid (acc ++ [x] ++ unq e x (body.drop (k + 2)) = unq e x body) ∧ Hid (wfb e x (body.drop (k + 2)) = true) := by
          have hw := HW.out
          rw [HK.out] at hw
          cases hd : body.drop (k + 1) with
          | nil => rw [hd] at hw; simp [wfb] at hw
          | cons d r =>
            have hlen : (body.drop (k + 1)).length = body.length - (k + 1) := List.length_drop
            rw [hd] at hw hlen
            simp only [wfb, beq_self_eq_true, if_true, Bool.and_eq_true, beq_iff_eq] at hw
            have hr2 : body.drop (k + 2) = r := by rw [← List.tail_drop, hd]; rfl
            have hts := HN.out
            simp only [List.length_cons] at hlen
            refine ⟨by omega, ?_, ?_⟩
            · unfold Hid; rw [hr2, ← HA.out, HK.out, hd, hw.1, unq_quote]; simp
            · unfold Hid; rw [hr2]; exact hw.2
        clear HA HW HK
        go_wp2_with fail
        refine (wb B B acc (x.toNat : Int) x _ rfl hbd (by omega) hBz).mono ?_
        rintro r w4 ⟨rfl, hbd4, hb4⟩
        have hBz4 : B ≤ w4.heap.size := Nat.le_trans hBz hb4.size
        have hbl4 : Below B w1 w4 := hblk.trans hb4
        clear hbd hb4 hblk
        go_wp2
        go_roundw
        case rel => exact ⟨k + 2, by omega, by go_num, acc ++ [x], hbd4, HF.out, HW2.out, by simp; omega, hBz4, hbl4⟩
        case measure => simp [intOf]; omega
      · have hxq' : (x == q) = false := by simpa using hxq
        have hqq : ((x.toNat : Int) == (q.toNat : Int)) = false := by rw [byte_eq]; exact hxq'
        by_cases h92 : e = true ∧ x = 92
        · obtain ⟨rfl, rfl⟩ := h92
          have hq2 : ((92 : Int) == (q.toNat : Int)) = false := hqq
          clear hqq
          obtain ⟨d, hk2, hkd, HF, HW2⟩ : ∃ d : UInt8, ∃ hk2 : k + 1 < t.size, t[k + 1]'hk2 = d ∧ Hid (acc ++ unx d ++ unq true q (body.drop (k + 2)) = unq true q body) ∧ Hid (wfb true q (body.drop (k + 2)) = true) := by
            have hw := HW.out
            rw [HK.out] at hw
            cases hd : body.drop (k + 1) with
            | nil => rw [hd] at hw; simp [wfb] at hw
            | cons d r =>
              have hlen : (body.drop (k + 1)).length = body.length - (k + 1) := List.length_drop
              rw [hd] at hw hlen
              rw [wfb_esc q d r hxq'] at hw
              have hr2 : body.drop (k + 2) = r := by rw [← List.tail_drop, hd]; rfl
              have hts := HN.out
              simp only [List.length_cons] at hlen
              have hk2 : k + 1 < t.size := by omega
              have hdd : body[k + 1]? = some d := by
                have : (body.drop (k + 1))[0]? = some d := by rw [hd]; rfl
                simpa using this
              refine ⟨d, hk2, ?_, ?_, ?_⟩
              · have := data_at t (k + 1) hk2
                rw [HX.out, hdd] at this
                exact (Option.some.inj this).symm
              · unfold Hid; rw [hr2, ← HA.out, HK.out, hd, unq_esc q d r hxq']; simp
              · unfold Hid; rw [hr2]; exact hw
          have hk2' : (k : Int) + 1 < (t.size : Int) := by omega
          clear HA HW HK hxq hxq'
          cases hkp : keep d with
          | true =>
            have hu : unx d = [92, d] := by simp [unx, hkp]
            have hun : une d = d := by
              have hd2 : d = 37 ∨ d = 95 := by simpa [keep] using hkp
              rcases hd2 with rfl | rfl <;> rfl
            rw [hu] at HF
            go_wp2_with (go_at_call 35; refine (une_any d _).mono ?_; rintro r wz ⟨rfl, hwz⟩; have hwz := hwz.symm; subst hwz; rw [hkp, hun])
            refine (wb B B acc 92 92 _ rfl hbd (by omega) hBz).mono ?_
            rintro r w3 ⟨rfl, hbd3, hb3⟩
            have hBz3 : B ≤ w3.heap.size := Nat.le_trans hBz hb3.size
            go_wp2_with fail
            refine (wb B B (acc ++ [92]) (d.toNat : Int) d _ rfl hbd3 (by simp; omega) hBz3).mono ?_
            rintro r w4 ⟨rfl, hbd4, hb4⟩
            have hBz4 : B ≤ w4.heap.size := Nat.le_trans hBz3 hb4.size
            have hbl4 : Below B w1 w4 := (hblk.trans hb3).trans hb4
            clear hbd hbd3 hb3 hb4 hblk
            go_wp2
            go_roundw
            case rel => exact ⟨k + 2, by omega, by go_num, acc ++ [92] ++ [d], hbd4, by rw [← HF.out]; simp, HW2.out, by simp; omega, hBz4, hbl4⟩
            case measure => simp [intOf]; omega
          | false =>
            have hu : unx d = [une d] := by simp [unx, hkp]
            rw [hu] at HF
            go_wp2_with (go_at_call 35; refine (une_any d _).mono ?_; rintro r wz ⟨rfl, hwz⟩; have hwz := hwz.symm; subst hwz; rw [hkp])
            refine (wb B B acc ((une d).toNat : Int) (une d) _ rfl hbd (by omega) hBz).mono ?_
            rintro r w4 ⟨rfl, hbd4, hb4⟩
            have hBz4 : B ≤ w4.heap.size := Nat.le_trans hBz hb4.size
            have hbl4 : Below B w1 w4 := hblk.trans hb4
            clear hbd hb4 hblk
            go_wp2
            go_roundw
            case rel => exact ⟨k + 2, by omega, by go_num, acc ++ [une d], hbd4, HF.out, HW2.out, by simp; omega, hBz4, hbl4⟩
            case measure => simp [intOf]; omega
        · have he92 : (e && x == 92) = false := by
            cases e
            · rfl
            · simpa using h92
          have HF : Hid (acc ++ [x] ++ unq e q (body.drop (k + 1)) = unq e q body) := by
            unfold Hid; rw [← HA.out, HK.out, unq_plain e q x _ hxq' he92]; simp
          have HW2 : Hid (wfb e q (body.drop (k + 1)) = true) := by
            unfold Hid; have := HW.out; rw [HK.out, wfb_plain e q x _ hxq' he92] at this; exact this
          clear HA HW HK hxq hxq'
          have h92' : ((x.toNat : Int) == 92) = false ∨ (x = 92 ∧ e = false) := by
            by_cases hx92 : x = 92
            · right; refine ⟨hx92, ?_⟩; cases e; rfl; exact absurd ⟨rfl, hx92⟩ h92
            · left; exact ne_byte hx92 rfl
          clear h92 he92
          rcases h92' with n92 | ⟨rfl, rfl⟩
          · go_wp2_with fail
            refine (wb B B acc (x.toNat : Int) x _ rfl hbd (by omega) hBz).mono ?_
            rintro r w4 ⟨rfl, hbd4, hb4⟩
            have hBz4 : B ≤ w4.heap.size := Nat.le_trans hBz hb4.size
            have hbl4 : Below B w1 w4 := hblk.trans hb4
            clear hbd hb4 hblk
            go_wp2
            go_roundw
            case rel => exact ⟨k + 1, by omega, by go_num, acc ++ [x], hbd4, HF.out, HW2.out, by simp; omega, hBz4, hbl4⟩
            case measure => simp [intOf]; omega
          · have hq2 : ((92 : Int) == (q.toNat : Int)) = false := hqq
            clear hqq
            go_wp2_with fail
            refine (wb B B acc 92 92 _ rfl hbd (by omega) hBz).mono ?_
            rintro r w4 ⟨rfl, hbd4, hb4⟩
            have hBz4 : B ≤ w4.heap.size := Nat.le_trans hBz hb4.size
            have hbl4 : Below B w1 w4 := hblk.trans hb4
            clear hbd hb4 hblk
            go_wp2
            go_roundw
            case rel => exact ⟨k + 1, by omega, by go_num, acc ++ [92], hbd4, HF.out, HW2.out, by simp; omega, hBz4, hbl4⟩
            case measure => simp [intOf]; omega
    · obtain rfl : k = t.size := by omega
      have HF : Hid (acc = unq e q body) := by
        unfold Hid
        rw [← HA.out, List.drop_eq_nil_of_le (by have := HN.out; omega)]
        simp [unq]
      go_wp2_with fail
      refine (Try.Builder_String_any B B acc _ (Or.inr hbd) hBz).mono ?_
      rintro r w3 ⟨rfl, hb3⟩
      go_wp2
      go_ret
      refine ⟨by rw [← HF.out]; rfl, ?_⟩
      have hb' := hbl.size
      exact hbl.trans ((hblk.trans hb3).mono (by omega))

set_option maxHeartbeats 4000000 in
set_option maxRecDepth 100000 in
theorem unq_long2 (s : ByteArray) (q : UInt8) (body : List UInt8) (w : World) (hr : IsRun s q body q) (hs : s.size ≤ 1048576 * 4) (hq : Quote true q) (hwf : wfb true q body = true) (h1 : body.contains q = false) (h2 : body.contains 92 = true) :
    Calls Try.prog 28 #[.string s] w fun r w' => r = .returned (.string ⟨(unq true q body).toArray⟩) ∧ Below w.heap.size w w' := by
  have hs2 := hr.size
  have hp : 0 < s.size := by omega
  have h0 := hr.at0 hp
  have hx := extract_body hr
  have hw1 : IntKind.i64.wrap ((s.size : Int) - 1) = (s.size : Int) - 1 := by rw [IntKind.wrap_i64]; omega
  have hb1 : (1 : Int) ≤ (s.size : Int) - 1 := by omega
  have hb2 : (s.size : Int) - 1 ≤ (s.size : Int) := by omega
  have hb3 : (0 : Int) < (s.size : Int) := by omega
  have hb4 : ((s.size : Int) - 1).toNat = s.size - 1 := by omega
  have he := quote_int hq
  have hi1 := index_neg body q h1
  have hi2 := index_pos body 92 h2
  have hback : ((q.toNat : Int)).toNat.toUInt8 = q := by simp
  have hback2 : ((92 : Int)).toNat.toUInt8 = 92 := by decide
  have HX : Hid ((s.extract 1 (s.size - 1)).data.toList = body) := hx
  have HWF : Hid (wfb true q body = true) := hwf
  have hts : (s.extract 1 (s.size - 1)).size = body.length := by rw [← hx]; exact (Array.length_toList).symm
  have htl : (s.extract 1 (s.size - 1)).size ≤ 1048576 * 4 := by omega
  clear hs2 hx hr hq hwf h1 h2
  generalize hT : s.extract 1 (s.size - 1) = t at *
  have HN : Hid (t.size = body.length) := hts
  clear hts
  go_enter Try.func28, Try.ntmps28
  go_wp2
  go_quiet (fail)
  have hbl : Below w.heap.size w (w.drewN nq) := below_drews w nq
  generalize w.drewN nq = w1 at *
  clear hT
  go_wp2_with (first | (go_at_call 22; refine (isStr _ _).mono ?_; rintro r w2 ⟨rfl, hw⟩; have hw := hw.symm; subst hw) | (go_at_call 34; refine (Try.strings_IndexByte _ _ _).mono ?_; rintro r w2 ⟨rfl, hw⟩; have hw := hw.symm; subst hw; rw [HX.out]; first | rw [hback] | rw [hback2]))
  have hbk : (w1.alloc (.cells #[.pointer none, .slice none 0 0] 32)).heap[w1.heap.size]? = some (.cells #[.pointer none, .slice none 0 0] 32 (0, 0)) := heap_alloc_new w1 _
  refine (Try.Builder_Grow_fresh w1.heap.size w1.heap.size t.size _ (Nat.le_refl _) hbk (by simp) (by omega)).mono ?_
  rintro r w2 ⟨rfl, hB0, hbl0⟩
  have hR0 : URel true q body w1.heap.size w1 0 w2 := ⟨[], hB0, by simp, by simpa using HWF.out, by simp, by have := hbl0.size; simp at this; omega, ((Below.refl _ w1).alloc (Nat.le_refl _) _).trans hbl0⟩
  clear hbk hB0 hbl0 hi1 hi2
  go_wp2
  go_loopw [7] (fun i wr => ∃ k : Nat, k ≤ t.size ∧ i = .int .i64 k ∧ URel true q body w1.heap.size w1 k wr) (fun i _ => t.size - (intOf i).toNat)
  case atStart => exact ⟨0, Nat.zero_le _, rfl, hR0⟩
  case round =>
    clear hR0
    obtain ⟨k, hk, rfl, acc, hbd, hacc, hwk, hal, hBz, hblk⟩ := hrel
    have HA : Hid (acc ++ unq true q (body.drop k) = unq true q body) := hacc
    have HW : Hid (wfb true q (body.drop k) = true) := hwk
    clear hacc hwk
    generalize hBB : w1.heap.size = B at *
    by_cases hlt : k < t.size
    · obtain ⟨x, hxx⟩ : ∃ x : UInt8, t[k]'hlt = x := ⟨_, rfl⟩
      have HK : Hid (body.drop k = x :: body.drop (k + 1)) := by
        unfold Hid; exact drop_at _ _ _ (by rw [← HX.out, data_at t k hlt, hxx])
      have hlt' : (k : Int) < (t.size : Int) := by omega
      by_cases hxq : x = q
      · subst hxq
        have hqq : ((x.toNat : Int) == (x.toNat : Int)) = true := by simp
        obtain ⟨hk2, HF, HW2⟩ : k + 2 ≤ t.size ∧ Hid (acc ++ [x] ++ unq true x (body.drop (k + 2)) = unq true x body) ∧ Hid (wfb true x (body.drop (k + 2)) = true) := by
          have hw := HW.out
          rw [HK.out] at hw
          cases hd : body.drop (k + 1) with
          | nil => rw [hd] at hw; simp [wfb] at hw
          | cons d r =>
            have hlen : (body.drop (k + 1)).length = body.length - (k + 1) := List.length_drop
            rw [hd] at hw hlen
            simp only [wfb, beq_self_eq_true, if_true, Bool.and_eq_true, beq_iff_eq] at hw
            have hr2 : body.drop (k + 2) = r := by rw [← List.tail_drop, hd]; rfl
            have hts := HN.out
            simp only [List.length_cons] at hlen
            refine ⟨by omega, ?_, ?_⟩
            · unfold Hid; rw [hr2, ← HA.out, HK.out, hd, hw.1, unq_quote]; simp
            · unfold Hid; rw [hr2]; exact hw.2
        clear HA HW HK
        go_wp2_with fail
        refine (wb B B acc (x.toNat : Int) x _ rfl hbd (by omega) hBz).mono ?_
        rintro r w4 ⟨rfl, hbd4, hb4⟩
        have hBz4 : B ≤ w4.heap.size := Nat.le_trans hBz hb4.size
        have hbl4 : Below B w1 w4 := hblk.trans hb4
        clear hbd hb4 hblk
        go_wp2
        go_roundw
        case rel => exact ⟨k + 2, by omega, by go_num, acc ++ [x], hbd4, HF.out, HW2.out, by simp; omega, hBz4, hbl4⟩
        case measure => simp [intOf]; omega
      · have hxq' : (x == q) = false := by simpa using hxq
        have hqq : ((x.toNat : Int) == (q.toNat : Int)) = false := by rw [byte_eq]; exact hxq'
        by_cases h92 : x = 92
        · subst h92
          have hq2 : ((92 : Int) == (q.toNat : Int)) = false := hqq
          clear hqq
          obtain ⟨d, hk2, hkd, HF, HW2⟩ : ∃ d : UInt8, ∃ hk2 : k + 1 < t.size, t[k + 1]'hk2 = d ∧ Hid (acc ++ unx d ++ unq true q (body.drop (k + 2)) = unq true q body) ∧ Hid (wfb true q (body.drop (k + 2)) = true) := by
            have hw := HW.out
            rw [HK.out] at hw
            cases hd : body.drop (k + 1) with
            | nil => rw [hd] at hw; simp [wfb] at hw
            | cons d r =>
              have hlen : (body.drop (k + 1)).length = body.length - (k + 1) := List.length_drop
              rw [hd] at hw hlen
              rw [wfb_esc q d r hxq'] at hw
              have hr2 : body.drop (k + 2) = r := by rw [← List.tail_drop, hd]; rfl
              have hts := HN.out
              simp only [List.length_cons] at hlen
              have hk2 : k + 1 < t.size := by omega
              have hdd : body[k + 1]? = some d := by
                have : (body.drop (k + 1))[0]? = some d := by rw [hd]; rfl
                simpa using this
              refine ⟨d, hk2, ?_, ?_, ?_⟩
              · have := data_at t (k + 1) hk2
                rw [HX.out, hdd] at this
                exact (Option.some.inj this).symm
              · unfold Hid; rw [hr2, ← HA.out, HK.out, hd, unq_esc q d r hxq']; simp
              · unfold Hid; rw [hr2]; exact hw
          have hk2' : (k : Int) + 1 < (t.size : Int) := by omega
          clear HA HW HK hxq hxq'
          cases hkp : keep d with
          | true =>
            have hu : unx d = [92, d] := by simp [unx, hkp]
            have hun : une d = d := by
              have hd2 : d = 37 ∨ d = 95 := by simpa [keep] using hkp
              rcases hd2 with rfl | rfl <;> rfl
            rw [hu] at HF
            go_wp2_with (go_at_call 35; refine (une_any d _).mono ?_; rintro r wz ⟨rfl, hwz⟩; have hwz := hwz.symm; subst hwz; rw [hkp, hun])
            refine (wb B B acc 92 92 _ rfl hbd (by omega) hBz).mono ?_
            rintro r w3 ⟨rfl, hbd3, hb3⟩
            have hBz3 : B ≤ w3.heap.size := Nat.le_trans hBz hb3.size
            go_wp2_with fail
            refine (wb B B (acc ++ [92]) (d.toNat : Int) d _ rfl hbd3 (by simp; omega) hBz3).mono ?_
            rintro r w4 ⟨rfl, hbd4, hb4⟩
            have hBz4 : B ≤ w4.heap.size := Nat.le_trans hBz3 hb4.size
            have hbl4 : Below B w1 w4 := (hblk.trans hb3).trans hb4
            clear hbd hbd3 hb3 hb4 hblk
            go_wp2
            go_roundw
            case rel => exact ⟨k + 2, by omega, by go_num, acc ++ [92] ++ [d], hbd4, by rw [← HF.out]; simp, HW2.out, by simp; omega, hBz4, hbl4⟩
            case measure => simp [intOf]; omega
          | false =>
            have hu : unx d = [une d] := by simp [unx, hkp]
            rw [hu] at HF
            go_wp2_with (go_at_call 35; refine (une_any d _).mono ?_; rintro r wz ⟨rfl, hwz⟩; have hwz := hwz.symm; subst hwz; rw [hkp])
            refine (wb B B acc ((une d).toNat : Int) (une d) _ rfl hbd (by omega) hBz).mono ?_
            rintro r w4 ⟨rfl, hbd4, hb4⟩
            have hBz4 : B ≤ w4.heap.size := Nat.le_trans hBz hb4.size
            have hbl4 : Below B w1 w4 := hblk.trans hb4
            clear hbd hb4 hblk
            go_wp2
            go_roundw
            case rel => exact ⟨k + 2, by omega, by go_num, acc ++ [une d], hbd4, HF.out, HW2.out, by simp; omega, hBz4, hbl4⟩
            case measure => simp [intOf]; omega
        · have he92 : (true && x == 92) = false := by simpa using h92
          have HF : Hid (acc ++ [x] ++ unq true q (body.drop (k + 1)) = unq true q body) := by
            unfold Hid; rw [← HA.out, HK.out, unq_plain true q x _ hxq' he92]; simp
          have HW2 : Hid (wfb true q (body.drop (k + 1)) = true) := by
            unfold Hid; have := HW.out; rw [HK.out, wfb_plain true q x _ hxq' he92] at this; exact this
          clear HA HW HK hxq hxq'
          have n92 : ((x.toNat : Int) == 92) = false := ne_byte h92 rfl
          clear h92 he92
          go_wp2_with fail
          refine (wb B B acc (x.toNat : Int) x _ rfl hbd (by omega) hBz).mono ?_
          rintro r w4 ⟨rfl, hbd4, hb4⟩
          have hBz4 : B ≤ w4.heap.size := Nat.le_trans hBz hb4.size
          have hbl4 : Below B w1 w4 := hblk.trans hb4
          clear hbd hb4 hblk
          go_wp2
          go_roundw
          case rel => exact ⟨k + 1, by omega, by go_num, acc ++ [x], hbd4, HF.out, HW2.out, by simp; omega, hBz4, hbl4⟩
          case measure => simp [intOf]; omega
    · obtain rfl : k = t.size := by omega
      have HF : Hid (acc = unq true q body) := by
        unfold Hid
        rw [← HA.out, List.drop_eq_nil_of_le (by have := HN.out; omega)]
        simp [unq]
      go_wp2_with fail
      refine (Try.Builder_String_any B B acc _ (Or.inr hbd) hBz).mono ?_
      rintro r w3 ⟨rfl, hb3⟩
      go_wp2
      go_ret
      refine ⟨by rw [← HF.out]; rfl, ?_⟩
      have hb' := hbl.size
      exact hbl.trans ((hblk.trans hb3).mono (by omega))

/-- unquote at a well-formed run. -/
theorem unq_any (s : ByteArray) (q : UInt8) (e : Bool) (body : List UInt8) (w : World) (hr : IsRun s q body q) (hs : s.size ≤ 1048576 * 4) (hq : Quote e q) (hwf : wfb e q body = true) :
    Calls Try.prog 28 #[.string s] w fun r w' => r = .returned (.string ⟨(unq e q body).toArray⟩) ∧ Below w.heap.size w w' := by
  cases h1 : body.contains q
  · by_cases h2 : e = true → body.contains 92 = false
    · exact unq_short s q e body w hr (by omega) hq h1 h2
    · cases e with
      | false => exact absurd (fun h => by cases h) h2
      | true =>
        have h92 : body.contains 92 = true := by
          cases hc : body.contains 92
          · exact absurd (fun _ => hc) h2
          · rfl
        exact unq_long2 s q body w hr hs hq hwf h1 h92
  · exact unq_long1 s q e body w hr hs hq hwf h1

theorem zzunq_any (s : ByteArray) (q : UInt8) (e : Bool) (body : List UInt8) (w : World) (hr : IsRun s q body q) (hs : s.size ≤ 1048576 * 4) (hq : Quote e q) (hwf : wfb e q body = true) :
    Calls Try.prog 13 #[.string s] w fun r w' => r = .returned (.string ⟨(unq e q body).toArray⟩) ∧ Below w.heap.size w w' := by
  go_enter Try.func13, Try.ntmps13
  go_wp2_with (go_at_call 28; refine (unq_any s q e body _ hr hs hq hwf).mono ?_; rintro r w1 ⟨rfl, hb⟩)
  go_ret
  exact ⟨rfl, hb⟩

end Go.Proofs.Qxb6605290a
