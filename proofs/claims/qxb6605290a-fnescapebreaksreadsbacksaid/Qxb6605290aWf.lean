/-
  zzWellFormedRun (12): its contract.
-/
import Derived.Test.Qxb6605290aRun
import Derived.Test.Qxb6605290aModel
namespace Go.Proofs.Qxb6605290a
open Go.RowKit

/-- A string that is a first byte, a body and a last byte. -/
structure IsRun (s : ByteArray) (q : UInt8) (body : List UInt8) (z : UInt8) : Prop where
  all : s.data.toList = q :: (body ++ [z])

theorem IsRun.size {s : ByteArray} {q z : UInt8} {body : List UInt8} (h : IsRun s q body z) : s.size = body.length + 2 := by
  have h1 : s.data.toList.length = s.size := by rw [Array.length_toList]; rfl
  rw [← h1, h.all]; simp

theorem IsRun.at0 {s : ByteArray} {q z : UInt8} {body : List UInt8} (h : IsRun s q body z) (hp : 0 < s.size) : s[0]'hp = q := by
  have := data_at s 0 hp
  rw [h.all] at this
  simpa using this.symm

theorem IsRun.atLast {s : ByteArray} {q z : UInt8} {body : List UInt8} (h : IsRun s q body z) (hp : s.size - 1 < s.size) : s[s.size - 1]'hp = z := by
  have h1 := data_at s (s.size - 1) hp
  have hs := h.size
  rw [h.all] at h1
  have h2 : (q :: (body ++ [z]))[s.size - 1]? = some z := by
    rw [show s.size - 1 = body.length + 1 from by omega]; simp
  exact Option.some.inj (h1.symm.trans h2)

theorem IsRun.atBody {s : ByteArray} {q z : UInt8} {body : List UInt8} (h : IsRun s q body z) (k : Nat) (hk : k < body.length) (hp : k + 1 < s.size) : body[k]? = some (s[k + 1]'hp) := by
  have h1 := data_at s (k + 1) hp
  rw [h.all, List.getElem?_cons_succ, List.getElem?_append_left hk] at h1
  exact h1

theorem isRun_of (s : ByteArray) (h : 2 ≤ s.size) : ∃ q body z, IsRun s q body z := by
  have h1 : s.data.toList.length = s.size := by rw [Array.length_toList]; rfl
  cases hl : s.data.toList with
  | nil => rw [hl] at h1; simp at h1; omega
  | cons q r =>
    have hr : r ≠ [] := by rintro rfl; rw [hl] at h1; simp at h1; omega
    exact ⟨q, r.dropLast, r.getLast hr, ⟨by rw [hl, List.dropLast_concat_getLast hr]⟩⟩

theorem byte_eq {x y : UInt8} : (((x.toNat : Int)) == (y.toNat : Int)) = (x == y) := by
  rw [Bool.eq_iff_iff]
  simp only [beq_iff_eq]
  constructor
  · intro h; exact UInt8.toNat_inj.1 (by omega)
  · rintro rfl; rfl

set_option maxHeartbeats 1000000 in
set_option maxRecDepth 100000 in
theorem wf_neq (s : ByteArray) (q z : UInt8) (body : List UInt8) (w : World) (hr : IsRun s q body z) (hs : s.size ≤ 16777216) (hz : (z == q) = false) : Calls Try.prog 12 #[.string s] w fun e w' => e = .returned (.bool false) ∧ w' = w := by
  have hs2 := hr.size
  have hp : 0 < s.size := by omega
  have h0 := hr.at0 hp
  have hp1 : s.size - 1 < s.size := by omega
  have hl := hr.atLast hp1
  have hne : ((z.toNat : Int) != (q.toNat : Int)) = true := by rw [bne, byte_eq, hz]; rfl
  have h2 : (2 : Int) ≤ (s.size : Int) := by omega
  clear hs2
  go_enter Try.func12, Try.ntmps12
  go_wp2
  go_ret
  exact ⟨rfl, rfl⟩

set_option maxHeartbeats 2000000 in
set_option maxRecDepth 100000 in
theorem wf_eq (s : ByteArray) (q : UInt8) (e : Bool) (body : List UInt8) (w : World) (hr : IsRun s q body q) (hs : s.size ≤ 16777216) (he : ((q.toNat : Int) != 96) = e) : Calls Try.prog 12 #[.string s] w fun r w' => r = .returned (.bool (wfb e q body)) ∧ w' = w := by
  have hs2 := hr.size
  have hp : 0 < s.size := by omega
  have h0 := hr.at0 hp
  have hp1 : s.size - 1 < s.size := by omega
  have hp2 : body.length + 1 < s.size := by omega
  have hl : s[body.length + 1]'hp2 = q := by
    rw [← hr.atLast hp1]
    congr 1
    omega
  have hne : ((q.toNat : Int) != (q.toNat : Int)) = false := by simp
  have h2 : decide ((s.size : Int) < 2) = false := decide_eq_false (by omega)
  have hsz : (s.size : Int) - 1 = (body.length : Int) + 1 := by omega
  have HS : Hid (s.size = body.length + 2) := hs2
  have HB : Hid (∀ k, k < body.length → ∀ hp : k + 1 < s.size, body[k]? = some (s[k + 1]'hp)) := fun k hk hp => hr.atBody k hk hp
  have hp1' : s.size - 1 < s.size := hp1
  clear hs2 hr
  generalize hn : body.length = n at *
  go_enter Try.func12, Try.ntmps12
  go_wp2
  go_loop [6] (fun i => ∃ k : Nat, k ≤ n ∧ i = .int .i64 ((k : Int) + 1) ∧ wfb e q (body.drop k) = wfb e q body) (fun i => n + 1 - (intOf i).toNat)
  case atStart => exact ⟨0, Nat.zero_le _, rfl, rfl⟩
  case round =>
    obtain ⟨k, hk, rfl, hw⟩ := hrel
    have HW : Hid (wfb e q (body.drop k) = wfb e q body) := hw
    clear hw
    by_cases hlt : k < n
    · have hk1 : k + 1 < s.size := by have := HS.out; omega
      obtain ⟨x, hx⟩ : ∃ x : UInt8, s[k + 1]'hk1 = x := ⟨_, rfl⟩
      have HX : Hid (body.drop k = x :: body.drop (k + 1)) := by
        unfold Hid; exact drop_at _ _ _ (by rw [HB.out k hlt hk1, hx])
      have hlt' : (k : Int) + 1 < (n : Int) + 1 := by omega
      have hi1 : (k : Int) + 1 < (s.size : Int) := by have := HS.out; omega
      by_cases hxq : (x == q) = true
      · obtain rfl : x = q := by simpa using hxq
        have hqq : ((x.toNat : Int) == (x.toNat : Int)) = true := by simp
        by_cases hk2 : k + 1 < n
        · have hk3 : k + 2 < s.size := by have := HS.out; omega
          obtain ⟨y, hy⟩ : ∃ y : UInt8, s[k + 1 + 1]'hk3 = y := ⟨_, rfl⟩
          have HY : Hid (body.drop (k + 1) = y :: body.drop (k + 2)) := by
            unfold Hid; exact drop_at _ _ _ (by rw [HB.out (k + 1) hk2 hk3, hy])
          have hi2 : (k : Int) + 1 + 1 < (n : Int) + 1 := by omega
          have hi3 : (k : Int) + 1 + 1 < (s.size : Int) := by have := HS.out; omega
          have hxx : ((x.toNat : Int) != (x.toNat : Int)) = false := by simp
          by_cases hyx : y = x
          · subst hyx
            have HF : Hid (wfb e y (body.drop (k + 2)) = wfb e y body) := by
              unfold Hid; rw [← HW.out, HX.out, HY.out, wfb_quote]
            clear HW HX HY hxq
            go_wp2
            go_round
            case rel => exact ⟨k + 2, by omega, by go_num, HF.out⟩
            case measure => simp [intOf]; omega
          · have HF : Hid (wfb e x body = false) := by
              unfold Hid; rw [← HW.out, HX.out, HY.out, wfb]; simp [hyx]
            have hyx' : ((y.toNat : Int) != (x.toNat : Int)) = true := by rw [bne, byte_eq, beq_eq_false_iff_ne.2 hyx]; rfl
            clear HW HX HY hxq hyx
            go_wp2
            go_ret
            exact ⟨by rw [HF.out]; rfl, rfl⟩
        · have HF : Hid (wfb e x body = false) := by
            unfold Hid; rw [← HW.out, HX.out, List.drop_eq_nil_of_le (by omega)]; simp [wfb]
          have hi2 : (n : Int) + 1 ≤ (k : Int) + 1 + 1 := by omega
          clear HW HX hxq
          go_wp2
          go_ret
          exact ⟨by rw [HF.out]; rfl, rfl⟩
      · have hxq' : (x == q) = false := by simpa using hxq
        have hqq : ((x.toNat : Int) == (q.toNat : Int)) = false := by rw [byte_eq]; exact hxq'
        by_cases h92 : e = true ∧ x = 92
        · obtain ⟨rfl, rfl⟩ := h92
          have hq2 : ((92 : Int) == (q.toNat : Int)) = false := hqq
          clear hqq
          by_cases hk2 : k + 1 < n
          · have hk3 : k + 2 < s.size := by have := HS.out; omega
            have HY : Hid (body.drop (k + 1) = s[k + 1 + 1]'hk3 :: body.drop (k + 2)) := by
              unfold Hid; exact drop_at _ _ _ (by rw [HB.out (k + 1) hk2 hk3])
            have HF : Hid (wfb true q (body.drop (k + 2)) = wfb true q body) := by
              unfold Hid; rw [← HW.out, HX.out, HY.out, wfb_esc q _ _ hxq']
            have hi2 : (k : Int) + 1 + 1 < (n : Int) + 1 := by omega
            clear HW HX HY hxq hxq'
            go_wp2
            go_round
            case rel => exact ⟨k + 2, by omega, by go_num, HF.out⟩
            case measure => simp [intOf]; omega
          · have HF : Hid (wfb true q body = false) := by
              unfold Hid; rw [← HW.out, HX.out, List.drop_eq_nil_of_le (by omega)]; simp [wfb]
            have hi2 : (n : Int) + 1 ≤ (k : Int) + 1 + 1 := by omega
            clear HW HX hxq hxq'
            go_wp2
            go_ret
            exact ⟨by rw [HF.out]; rfl, rfl⟩
        · have he92 : (e && x == 92) = false := by
            cases e
            · rfl
            · simpa using h92
          have HF : Hid (wfb e q (body.drop (k + 1)) = wfb e q body) := by
            unfold Hid; rw [← HW.out, HX.out, wfb_plain e q x _ hxq' he92]
          clear HW HX hxq hxq'
          cases e with
          | false =>
            clear h92 he92
            go_wp2
            go_round
            case rel => exact ⟨k + 1, by omega, by go_num, HF.out⟩
            case measure => simp [intOf]; omega
          | true =>
            have n92 := ne_byte (x := x) (y := 92) (n := 92) (by simpa using h92) rfl
            clear h92 he92
            go_wp2
            go_round
            case rel => exact ⟨k + 1, by omega, by go_num, HF.out⟩
            case measure => simp [intOf]; omega
    · obtain rfl : k = n := by omega
      have HT : Hid (wfb e q body = true) := by
        unfold Hid; rw [← HW.out, List.drop_eq_nil_of_le (by omega)]; rfl
      go_wp2
      go_ret
      exact ⟨by rw [HT.out]; rfl, rfl⟩

end Go.Proofs.Qxb6605290a
