/-
  FnEscapeBreaksReadsBack (4): the walk.
-/
import Derived.Test.Qxb6605290aShow
namespace Go.Proofs.Qxb6605290a
open Go.RowKit

theorem zb4_true (s : ByteArray) (w : World) (h : s.size ≤ 1048576) : Calls Try.prog 11 #[.string s] w fun e w' => e = .returned (.bool true) ∧ w' = w := by
  have h0 : (s.size : Int) ≤ 1048576 := by omega
  go_enter Try.func11, Try.ntmps11
  go_wp2
  go_ret
  exact ⟨rfl, rfl⟩

theorem zb4_false (s : ByteArray) (w : World) (h : 1048576 < s.size) : Calls Try.prog 11 #[.string s] w fun e w' => e = .returned (.bool false) ∧ w' = w := by
  have h0 : (1048576 : Int) < (s.size : Int) := by omega
  go_enter Try.func11, Try.ntmps11
  go_wp2
  go_ret
  exact ⟨rfl, rfl⟩

theorem back_long (s : ByteArray) (w : World) (h : 1048576 < s.size) : Calls Try.prog 4 #[.string s] w fun e w' => e = .returned (.bool true) ∧ w' = w := by
  go_enter Try.func4, Try.ntmps4
  go_wp2_with (go_at_call 11; refine (zb4_false _ _ h).mono ?_; rintro e w' ⟨rfl, rfl⟩)
  go_ret
  exact ⟨rfl, rfl⟩

theorem back_short (s : ByteArray) (w : World) (h : s.size < 2) : Calls Try.prog 4 #[.string s] w fun e w' => e = .returned (.bool true) ∧ w' = w := by
  have h1 : (s.size : Int) < 2 := by omega
  have h2 : (s.size : Int) ≤ 1048576 := by omega
  go_enter Try.func4, Try.ntmps4
  go_wp2_with (go_at_call 11; refine (zb4_true _ _ (by omega)).mono ?_; rintro e w' ⟨rfl, rfl⟩)
  go_ret
  exact ⟨rfl, rfl⟩

/-- The quote is a break or a backslash. -/
theorem back_odd (s : ByteArray) (q : UInt8) (w : World) (h : s.size ≤ 1048576) (h2 : 2 ≤ s.size) (h0 : s[0]'(by omega) = q) (hq : q = 10 ∨ q = 13 ∨ q = 92) : Calls Try.prog 4 #[.string s] w fun e w' => e = .returned (.bool true) ∧ w' = w := by
  have h1 : (s.size : Int) ≤ 1048576 := by omega
  have h3 : (2 : Int) ≤ (s.size : Int) := by omega
  rcases hq with rfl | rfl | rfl
  all_goals
    go_enter Try.func4, Try.ntmps4
    go_wp2_with (go_at_call 11; refine (zb4_true _ _ (by omega)).mono ?_; rintro e w' ⟨rfl, rfl⟩)
    go_ret
    exact ⟨rfl, rfl⟩

/-- Not a terminated run. -/
theorem back_bad (s : ByteArray) (q : UInt8) (w : World) (h : s.size ≤ 1048576) (h2 : 2 ≤ s.size) (h0 : s[0]'(by omega) = q) (n10 : ((q.toNat : Int) == 10) = false) (n13 : ((q.toNat : Int) == 13) = false) (n92 : ((q.toNat : Int) == 92) = false)
    (HW : ∀ w, Calls Try.prog 12 #[.string s] w fun r w' => r = .returned (.bool false) ∧ w' = w) : Calls Try.prog 4 #[.string s] w fun e w' => e = .returned (.bool true) ∧ w' = w := by
  have h1 : (s.size : Int) ≤ 1048576 := by omega
  have h3 : (2 : Int) ≤ (s.size : Int) := by omega
  go_enter Try.func4, Try.ntmps4
  go_wp2_with (first | (go_at_call 11; refine (zb4_true _ _ (by omega)).mono ?_; rintro e w' ⟨rfl, rfl⟩) | (go_at_call 12; refine (HW _).mono ?_; rintro e w' ⟨rfl, rfl⟩))
  go_ret
  exact ⟨rfl, rfl⟩

theorem unq_length (e : Bool) (q : UInt8) : ∀ l : List UInt8, (unq e q l).length ≤ l.length
  | [] => by simp [unq]
  | [c] => by simp [unq]
  | c :: d :: r => by
    have h1 := unq_length e q r
    have h2 := unq_length e q (d :: r)
    have h3 : (unx d).length ≤ 2 := by unfold unx; split <;> simp
    rw [unq]
    split
    · simp only [List.length_cons]; omega
    · split
      · simp only [List.length_append, List.length_cons]; omega
      · simp only [List.length_cons] at h2 ⊢; omega

set_option maxHeartbeats 1000000 in
set_option maxRecDepth 100000 in
theorem back_main (s : ByteArray) (q : UInt8) (e : Bool) (body : List UInt8) (w : World) (h : s.size ≤ 1048576) (hr : IsRun s q body q) (hq : Quote e q) (hwf : wfb e q body = true) :
    Calls Try.prog 4 #[.string s] w fun r w' => r = .returned (.bool true) ∧ Below w.heap.size w w' := by
  obtain ⟨l1, l2, l3⟩ := body_law e q hq body hwf
  have hs2 := hr.size
  have hp : 0 < s.size := by omega
  have h0 := hr.at0 hp
  have hlen := eb_length e s.data.toList
  have hE : eb e s.data.toList = q :: (eb e body ++ [q]) := by rw [hr.all, eb_q e q hq, l3]
  have hop : opens s.data.toList = e := by rw [hr.all, opens, hq.esc]
  have hcl := mb_clear e false s.data.toList
  rw [← eb_mb] at hcl
  have HE := fun w => esc_any s w h
  rw [hop, ← eb_mb] at HE
  obtain ⟨G, hG⟩ : ∃ G : ByteArray, G = ⟨(eb e s.data.toList).toArray⟩ := ⟨_, rfl⟩
  have hGd : G.data.toList = eb e s.data.toList := by rw [hG]
  rw [← hG] at HE
  have hrun : IsRun G q (eb e body) q := ⟨by rw [hGd, hE]⟩
  have hGs : G.size ≤ 1048576 * 2 := by
    have e1 : G.size = (eb e s.data.toList).length := by rw [hG]; rfl
    have e2 : s.data.toList.length = s.size := by rw [Array.length_toList]; rfl
    omega
  have hGp : 0 < G.size := by have := hrun.size; omega
  have hG0 := hrun.at0 hGp
  have HB := fun w => has_any G w (by omega)
  rw [hGd, hcl] at HB
  have he := quote_int hq
  have HW1 := fun w => wf_eq s q e body w hr (by omega) he
  rw [hwf] at HW1
  have HW2 := fun w => wf_eq G q e (eb e body) w hrun (by omega) he
  rw [l1] at HW2
  have HU1 := fun w => zzunq_any s q e body w hr (by omega) hq hwf
  have HU2 := fun w => zzunq_any G q e (eb e body) w hrun (by omega) hq l1
  rw [l2] at HU2
  have hul := unq_length e q body
  have hbl : body.length ≤ 1048576 := by omega
  obtain ⟨U, hU⟩ : ∃ U : ByteArray, U = ⟨(unq e q body).toArray⟩ := ⟨_, rfl⟩
  have hUd : U.data.toList = unq e q body := by rw [hU]
  have hUs : U.size ≤ 16777216 := by
    have e1 : U.size = (unq e q body).length := by rw [hU]; rfl
    omega
  have HS := fun w => show_any U w hUs
  rw [hUd] at HS
  rw [← hU] at HU1
  have n10 : ((q.toNat : Int) == 10) = false := ne_byte (y := 10) (by rintro rfl; have := hq.brk; revert this; decide) rfl
  have n13 : ((q.toNat : Int) == 13) = false := ne_byte (y := 13) (by rintro rfl; have := hq.brk; revert this; decide) rfl
  have n92 : ((q.toNat : Int) == 92) = false := ne_byte (y := 92) (by rintro rfl; have := hq.bs; revert this; decide) rfl
  have h1 : decide ((1048576 : Int) < (s.size : Int)) = false := decide_eq_false (by omega)
  have h3 : decide ((s.size : Int) < 2) = false := decide_eq_false (by omega)
  have hqq : ((q.toNat : Int) != (q.toNat : Int)) = false := by simp
  have hp' : (0 : Int) < (s.size : Int) := by omega
  have hGp' : (0 : Int) < (G.size : Int) := by omega
  cases e with
  | true =>
    have n96 : ((q.toNat : Int) == 96) = false := by simpa [bne] using he
    simp only [if_true] at HU2
    rw [← hU] at HU2
    clear l1 l2 l3 hs2 hlen hE hop hcl hG hGd hrun hul hbl hU hUd HS hwf hr hq he
    go_enter Try.func4, Try.ntmps4
    go_wp2_with (go_at_call 11; refine (zb4_true _ _ h).mono ?_; rintro r wz ⟨rfl, hwz⟩; have hwz := hwz.symm; subst hwz)
    refine (HW1 w).mono ?_
    rintro r wz ⟨rfl, hwz⟩
    have hwz := hwz.symm
    subst hwz
    go_wp2_with fail
    refine (HE w).mono ?_
    rintro r w1 ⟨rfl, hb1⟩
    go_wp2_with fail
    refine (HB w1).mono ?_
    rintro r wz ⟨rfl, hwz⟩
    have hwz := hwz.symm
    subst hwz
    go_wp2_with fail
    refine (HW2 w1).mono ?_
    rintro r wz ⟨rfl, hwz⟩
    have hwz := hwz.symm
    subst hwz
    go_wp2_with fail
    refine (HU1 w1).mono ?_
    rintro r w2 ⟨rfl, hb2⟩
    go_wp2_with fail
    refine (HU2 w2).mono ?_
    rintro r w3 ⟨rfl, hb3⟩
    go_wp2
    go_ret
    have z1 := hb1.size
    have z2 := hb2.size
    exact ⟨rfl, (hb1.trans (hb2.mono z1)).trans (hb3.mono (by omega))⟩
  | false =>
    have n96 : ((q.toNat : Int) == 96) = true := by simpa [bne] using he
    simp only [Bool.false_eq_true, if_false] at HU2
    obtain ⟨V, hV⟩ : ∃ V : ByteArray, V = ⟨(shown (unq false q body)).toArray⟩ := ⟨_, rfl⟩
    rw [← hV] at HU2 HS
    clear l1 l2 l3 hs2 hlen hE hop hcl hG hGd hrun hul hbl hU hUd hV hwf hr hq he
    go_enter Try.func4, Try.ntmps4
    go_wp2_with (go_at_call 11; refine (zb4_true _ _ h).mono ?_; rintro r wz ⟨rfl, hwz⟩; have hwz := hwz.symm; subst hwz)
    refine (HW1 w).mono ?_
    rintro r wz ⟨rfl, hwz⟩
    have hwz := hwz.symm
    subst hwz
    go_wp2_with fail
    refine (HE w).mono ?_
    rintro r w1 ⟨rfl, hb1⟩
    go_wp2_with fail
    refine (HB w1).mono ?_
    rintro r wz ⟨rfl, hwz⟩
    have hwz := hwz.symm
    subst hwz
    go_wp2_with fail
    refine (HW2 w1).mono ?_
    rintro r wz ⟨rfl, hwz⟩
    have hwz := hwz.symm
    subst hwz
    go_wp2_with fail
    refine (HU1 w1).mono ?_
    rintro r w2 ⟨rfl, hb2⟩
    go_wp2_with fail
    refine (HS w2).mono ?_
    rintro r w3 ⟨rfl, hb3⟩
    go_wp2_with fail
    refine (HU2 w3).mono ?_
    rintro r w4 ⟨rfl, hb4⟩
    go_wp2
    go_ret
    have z1 := hb1.size
    have z2 := hb2.size
    have z3 := hb3.size
    exact ⟨rfl, ((hb1.trans (hb2.mono z1)).trans (hb3.mono (by omega))).trans (hb4.mono (by omega))⟩

/-- The law at every string. -/
theorem back_all (s : ByteArray) (w : World) : Calls Try.prog 4 #[.string s] w fun r w' => r = .returned (.bool true) ∧ Below w.heap.size w w' := by
  have fin : ∀ {r : Ending} {w' : World}, (r = .returned (.bool true) ∧ w' = w) → r = .returned (.bool true) ∧ Below w.heap.size w w' := by
    rintro r w' ⟨rfl, rfl⟩
    exact ⟨rfl, Below.refl _ _⟩
  by_cases h : s.size ≤ 1048576
  · by_cases h2 : 2 ≤ s.size
    · obtain ⟨q, body, z, hr⟩ := isRun_of s h2
      have h0 := hr.at0 (by omega)
      by_cases hq : q = 10 ∨ q = 13 ∨ q = 92
      · exact (back_odd s q w h h2 h0 hq).mono fun _ _ => fin
      · have q10 : ¬ q = 10 := fun e => hq (.inl e)
        have q13 : ¬ q = 13 := fun e => hq (.inr (.inl e))
        have q92 : ¬ q = 92 := fun e => hq (.inr (.inr e))
        have hQ : Quote (q != 96) q := ⟨by simp [isBrk, q10, q13], by rw [beq_eq_false_iff_ne]; exact fun e => q92 e.symm, rfl⟩
        by_cases hz : z = q
        · subst hz
          cases hwf : wfb (z != 96) z body
          · refine (back_bad s z w h h2 h0 (ne_byte q10 rfl) (ne_byte q13 rfl) (ne_byte q92 rfl) (fun w => ?_)).mono fun _ _ => fin
            have := wf_eq s z (z != 96) body w hr (by omega) (quote_int hQ)
            rw [hwf] at this
            exact this
          · exact back_main s z (z != 96) body w h hr hQ hwf
        · exact (back_bad s q w h h2 h0 (ne_byte q10 rfl) (ne_byte q13 rfl) (ne_byte q92 rfl) (fun w => wf_neq s q z body w hr (by omega) (by simpa using hz))).mono fun _ _ => fin
    · exact (back_short s w (by omega)).mono fun _ _ => fin
  · exact (back_long s w (by omega)).mono fun _ _ => fin

end Go.Proofs.Qxb6605290a
