/-
  FnEscapeBreaksMatchesBackslashParity (3): the walk.
-/
import Derived.Test.Qxb6605290aModel
namespace Go.Proofs.Qxb6605290a
open Go.RowKit

theorem opens_at (s : ByteArray) (hp : 0 < s.size) : (((s[0]'hp).toNat : Int) != 96) = opens s.data.toList := by
  have h := data_at s 0 hp
  cases hl : s.data.toList with
  | nil => rw [hl] at h; simp at h
  | cons c r =>
    rw [hl] at h
    have hc : c = s[0]'hp := by simpa using h
    rw [← hc, opens, Bool.eq_iff_iff]
    simp only [bne_iff_ne, ne_eq]
    constructor
    · rintro h1 rfl; exact h1 rfl
    · intro h1 h2; exact h1 (UInt8.toNat_inj.1 (by have : c.toNat = 96 := by omega
                                                   rw [this]; rfl))

theorem size_zero (s : ByteArray) (h : s.size = 0) : s.data.toList = [] := by
  apply List.eq_nil_of_length_eq_zero
  simpa using h

theorem model_any (s : ByteArray) (w : World) (hs : s.size ≤ 1048576) :
    Calls Try.prog 9 #[.string s] w fun r w' => r = .returned (.string ⟨(mb (opens s.data.toList) false s.data.toList).toArray⟩) ∧ Below w.heap.size w w' := by
  by_cases hp : 0 < s.size
  · exact model_some s _ w hs hp (opens_at s hp)
  · have h0 : s.size = 0 := by omega
    have e := size_zero s h0
    rw [e]
    exact model_zero s w h0

theorem str_eta (s : ByteArray) : (⟨s.data.toList.toArray⟩ : ByteArray) = s := by
  cases s; simp

theorem esc_any (s : ByteArray) (w : World) (hs : s.size ≤ 1048576) :
    Calls Try.prog 8 #[.string s] w fun r w' => r = .returned (.string ⟨(mb (opens s.data.toList) false s.data.toList).toArray⟩) ∧ Below w.heap.size w w' := by
  cases h : hasBrk s.data.toList
  · rw [mb_same _ _ _ h, str_eta]
    exact esc_none s w (by omega) h
  · have hp : 0 < s.size := by
      rcases Nat.eq_zero_or_pos s.size with h0 | h0
      · rw [size_zero s h0] at h; cases h
      · exact h0
    rw [← eb_mb]
    exact esc_some s _ w hs h hp (opens_at s hp)

theorem zb_true (s : ByteArray) (w : World) (h : s.size ≤ 1048576) : Calls Try.prog 7 #[.string s] w fun e w' => e = .returned (.bool true) ∧ w' = w := by
  have h0 : (s.size : Int) ≤ 1048576 := by omega
  go_enter Try.func7, Try.ntmps7
  go_wp2
  go_ret
  exact ⟨rfl, rfl⟩

theorem zb_false (s : ByteArray) (w : World) (h : 1048576 < s.size) : Calls Try.prog 7 #[.string s] w fun e w' => e = .returned (.bool false) ∧ w' = w := by
  have h0 : (1048576 : Int) < (s.size : Int) := by omega
  go_enter Try.func7, Try.ntmps7
  go_wp2
  go_ret
  exact ⟨rfl, rfl⟩

theorem parity_long (s : ByteArray) (w : World) (h : 1048576 < s.size) : Calls Try.prog 3 #[.string s] w fun e w' => e = .returned (.bool true) ∧ w' = w := by
  go_enter Try.func3, Try.ntmps3
  go_wp2_with (go_at_call 7; refine (zb_false _ _ h).mono ?_; rintro e w' ⟨rfl, rfl⟩)
  go_ret
  exact ⟨rfl, rfl⟩

theorem parity_main (s : ByteArray) (w : World) (h : s.size ≤ 1048576) : Calls Try.prog 3 #[.string s] w fun e w' => e = .returned (.bool true) ∧ Below w.heap.size w w' := by
  have hlen := eb_length (opens s.data.toList) s.data.toList
  rw [eb_mb] at hlen
  have hcl := mb_clear (opens s.data.toList) false s.data.toList
  have HE := fun w => esc_any s w h
  have HM := fun w => model_any s w h
  generalize mb (opens s.data.toList) false s.data.toList = l at *
  obtain ⟨G, hG⟩ : ∃ G : ByteArray, G = ⟨l.toArray⟩ := ⟨_, rfl⟩
  have hGd : G.data.toList = l := by rw [hG]
  rw [← hG] at HE HM
  have hGs : G.size ≤ 16777216 := by
    have h1 : G.size = l.length := by rw [hG]; rfl
    have h2 : s.data.toList.length = s.size := by rw [Array.length_toList]; rfl
    omega
  have HG : Hid (hasBrk G.data.toList = false) := by unfold Hid; rw [hGd]; exact hcl
  clear hG hGd hlen hcl
  have h0' : decide ((1048576 : Int) < (s.size : Int)) = false := decide_eq_false (by omega)
  go_enter Try.func3, Try.ntmps3
  go_wp2_with (go_at_call 7; refine (zb_true _ _ h).mono ?_; rintro e w' ⟨rfl, hw⟩; have hw := hw.symm; subst hw)
  refine (HE w).mono ?_
  rintro e w1 ⟨rfl, hb1⟩
  go_wp2_with fail
  refine (HM w1).mono ?_
  rintro e w2 ⟨rfl, hb2⟩
  go_wp2_with fail
  refine (has_any G w2 hGs).mono ?_
  rintro e w3 ⟨rfl, hw⟩
  have hw := hw.symm
  subst hw
  rw [HG.out]
  go_wp2_with fail
  refine (esc_none G w2 hGs HG.out).mono ?_
  rintro e w3 ⟨rfl, hb3⟩
  go_wp2
  go_ret
  have z1 := hb1.size
  have z2 := hb2.size
  exact ⟨rfl, (hb1.trans (hb2.mono z1)).trans (hb3.mono (by omega))⟩

end Go.Proofs.Qxb6605290a
