/-
  strings.IndexRune (37) at the constant of a line break and a carriage return, the rune not ASCII: -1.
-/
import Derived.Test.Qxb6605290aRows
import Derived.Test.Qxb6605290aShelf
import Derived.WalkKit
import Derived.WalkSpells
import Derived.WalkMore
import Derived.Deep.QuietTactic
import Derived.BigQuiet
import Derived.Deep.LoopGhost
namespace Go.Proofs.Qxb6605290a
open Go.RowKit

set_option maxRecDepth 1000000 in
set_option maxHeartbeats 1000000 in
/-- Not a rune: -1 at once. -/
theorem rune_bad (r : Int) (w : World) (h128 : 128 ≤ r) (hm : r ≤ 2147483647) (he : (r == 65533) = false) (hv : Lib.validRune r = false) :
    Calls Try.prog 37 #[.string ⟨#[10, 13]⟩, .int .i32 r] w fun e w' => e = .returned (.int .i64 (-1)) ∧ w' = w := by
  go_enter Try.func37, Try.ntmps37
  go_wp2_with (go_at_call 44; refine (Try.utf8_ValidRune _ _).mono ?_; rintro e w' ⟨rfl, rfl⟩; rw [hv])
  go_ret
  exact ⟨rfl, rfl⟩

set_option maxRecDepth 1000000 in
set_option maxHeartbeats 1000000 in
/-- A rune of three bytes or more. -/
theorem rune_three (r : Int) (rs : ByteArray) (w : World) (h128 : 128 ≤ r) (hm : r ≤ 2147483647) (he : (r == 65533) = false) (hv : Lib.validRune r = true) (hrs : Utf8.encode r = rs) (h3 : 3 ≤ rs.size) (h4 : rs.size ≤ 4) :
    Calls Try.prog 37 #[.string ⟨#[10, 13]⟩, .int .i32 r] w fun e w' => e = .returned (.int .i64 (-1)) ∧ ∃ n, w' = w.drewN n := by
  have hd : decide (r < 128) = false := decide_eq_false (by omega)
  go_enter Try.func37, Try.ntmps37
  go_wp2_with (go_at_call 44; refine (Try.utf8_ValidRune _ _).mono ?_; rintro e w' ⟨rfl, rfl⟩; rw [hv])
  go_step3
  go_wp2
  refine wp_loop_rounds 1 ?_
  rw [rounds_succ]
  go_wp2
  rw [Exit.noGoto_ret]
  go_ret
  exact ⟨rfl, 0, rfl⟩

/-- Nothing lies in an empty rest. -/
theorem rest_none (c : Int) (w : World) : Calls Try.prog 34 #[.string ByteArray.empty, .int .u8 c] w fun e w' => e = .returned (.int .i64 (-1)) ∧ w' = w := by
  refine (Try.strings_IndexByte _ c w).mono ?_
  rintro e w' ⟨rfl, rfl⟩
  exact ⟨rfl, rfl⟩

set_option maxRecDepth 1000000 in
set_option maxHeartbeats 1000000 in
/-- A rune of two bytes. -/
theorem rune_two (r : Int) (rs : ByteArray) (w : World) (h128 : 128 ≤ r) (hm : r ≤ 2147483647) (he : (r == 65533) = false) (hv : Lib.validRune r = true) (hrs : Utf8.encode r = rs) (h2 : rs.size = 2) (hl : ∀ h : 1 < rs.size, 128 ≤ (rs[1]'h).toNat) :
    Calls Try.prog 37 #[.string ⟨#[10, 13]⟩, .int .i32 r] w fun e w' => e = .returned (.int .i64 (-1)) ∧ ∃ n, w' = w.drewN n := by
  have hd : decide (r < 128) = false := decide_eq_false (by omega)
  have hw2 : IntKind.i64.wrap 2 = 2 := by decide
  have hne : ∀ h : 1 < rs.size, (((({ data := #[10, 13] } : ByteArray)[1]'(by decide)).toNat : Int) != ((rs[1]'h).toNat : Int)) = true := fun h => by
    have h1 := hl h
    have h2 : (({ data := #[10, 13] } : ByteArray)[1]'(by decide)).toNat = 13 := rfl
    rw [h2, bne_iff_ne]
    omega
  go_enter Try.func37, Try.ntmps37
  go_wp2_with (go_at_call 44; refine (Try.utf8_ValidRune _ _).mono ?_; rintro e w' ⟨rfl, rfl⟩; rw [hv])
  go_step3
  go_wp2
  refine wp_loop_rounds 1 ?_
  rw [rounds_succ]
  go_wp2
  go_step3
  go_wp2
  go_quiet (fail)
  go_wp2
  obtain ⟨wq, hq⟩ : ∃ wq, wq = w'.drewN nq := ⟨_, rfl⟩
  rw [← hq]
  have HQ : Hid (wq = w'.drewN nq) := hq
  clear hq
  go_quiet ((go_at_call 34; exact Calls.quiet_of_same (rest_none _ _)))
  go_wp2
  rw [Exit.noGoto_ret]
  go_wp2
  rw [Exit.noGoto_ret]
  go_ret
  refine ⟨rfl, ?_⟩
  rw [HQ.out]
  exact ⟨_, World.drewN_drewN _ _ _⟩

set_option maxRecDepth 1000000 in
set_option maxHeartbeats 1000000 in
/-- The replacement rune: the constant holds none. -/
theorem rune_err (w : World) : Calls Try.prog 37 #[.string ⟨#[10, 13]⟩, .int .i32 65533] w fun e w' => e = .returned (.int .i64 (-1)) ∧ ∃ pos, w' = w.iter ⟨#[10, 13]⟩ pos := by
  have hnx0 := fun ty => run_next_ascii (P := Try.prog) w ⟨#[10, 13]⟩ 0 ty (by decide) (by decide)
  have hnx1 := fun ty => run_next_ascii (P := Try.prog) w ⟨#[10, 13]⟩ 1 ty (by decide) (by decide)
  have hnx2 := fun ty => run_next_end (P := Try.prog) w ⟨#[10, 13]⟩ 2 ty (by decide)
  go_enter Try.func37, Try.ntmps37
  go_wp2
  refine wp_loop_rounds 3 ?_
  rw [rounds_succ]
  go_wp2
  rw [rounds_succ]
  go_wp2
  rw [rounds_succ]
  go_wp2
  go_ret
  exact ⟨rfl, _, rfl⟩

theorem below_iter (w : World) (s : ByteArray) (pos : Nat) : Below w.heap.size w (w.iter s pos) := (Below.refl _ _).alloc (Nat.le_refl _) _

theorem below_drews (w : World) (n : Nat) : Below w.heap.size w (w.drewN n) := ⟨rfl, rfl, rfl, Nat.le_refl _, fun _ _ => rfl⟩

/-- strings.IndexRune of a rune beyond ASCII in the constant: -1. -/
theorem rune_high (r : Int) (w : World) (h128 : 128 ≤ r) (hm : r ≤ 2147483647) :
    Calls Try.prog 37 #[.string ⟨#[10, 13]⟩, .int .i32 r] w fun e w' => e = .returned (.int .i64 (-1)) ∧ Below w.heap.size w w' := by
  by_cases he : r = 65533
  · subst he
    refine (rune_err w).mono ?_
    rintro e w' ⟨rfl, pos, rfl⟩
    exact ⟨rfl, below_iter _ _ _⟩
  have he' : (r == 65533) = false := by simpa using he
  cases hv : Lib.validRune r
  · refine (rune_bad r w h128 hm he' hv).mono ?_
    rintro e w' ⟨rfl, rfl⟩
    exact ⟨rfl, Below.refl _ _⟩
  · have hu : Utf8.valid r = true := by rw [validRune_eq]; exact hv
    obtain ⟨h2, h4, hl⟩ := encode_facts r hu h128
    obtain ⟨rs, hrs⟩ : ∃ rs, Utf8.encode r = rs := ⟨_, rfl⟩
    rw [hrs] at h2 h4 hl
    by_cases h3 : 3 ≤ rs.size
    · refine (rune_three r rs w h128 hm he' hv hrs h3 h4).mono ?_
      rintro e w' ⟨rfl, n, rfl⟩
      exact ⟨rfl, below_drews _ _⟩
    · have h22 : rs.size = 2 := by omega
      refine (rune_two r rs w h128 hm he' hv hrs h22 (fun h => ?_)).mono ?_
      · have := hl (by omega)
        simpa [h22] using this
      · rintro e w' ⟨rfl, n, rfl⟩
        exact ⟨rfl, below_drews _ _⟩

end Go.Proofs.Qxb6605290a
