/-
  FnWriteStringRoundTripsThroughHexUnit (4): the walk.
-/
import Derived.Test.Qxb6602691aTable
import Derived.Test.Qxb6602691aHex
import Derived.Test.Qxb6602691aBack
namespace Go.Proofs.Qxb6602691a
open Go.RowKit

theorem zb1_true (a0 : Option Addr) (l0 c0 : Nat) (w : World) (h : l0 ≤ 1048576) : Calls Try.prog 11 #[.slice a0 l0 c0] w fun e w' => e = .returned (.bool true) ∧ w' = w := by
  have h0 : (l0 : Int) ≤ 1048576 := by omega
  go_enter Try.func11, Try.ntmps11
  go_wp2
  go_ret
  exact ⟨rfl, rfl⟩

theorem zb1_false (a0 : Option Addr) (l0 c0 : Nat) (w : World) (h : 1048576 < l0) : Calls Try.prog 11 #[.slice a0 l0 c0] w fun e w' => e = .returned (.bool false) ∧ w' = w := by
  have h0 : (1048576 : Int) < (l0 : Int) := by omega
  go_enter Try.func11, Try.ntmps11
  go_wp2
  go_ret
  exact ⟨rfl, rfl⟩

theorem trip_long (a0 : Option Addr) (l0 c0 : Nat) (w : World) (h : 65536 < l0) : Calls Try.prog 4 #[.slice a0 l0 c0] w fun e w' => e = .returned (.bool true) ∧ w' = w := by
  have h1 : (65536 : Int) < (l0 : Int) := by omega
  by_cases h0 : 1048576 < l0
  · go_enter Try.func4, Try.ntmps4
    go_wp2_with (go_at_call 11; refine (zb1_false _ _ _ _ h0).mono ?_; rintro e w' ⟨rfl, rfl⟩)
    go_ret
    exact ⟨rfl, rfl⟩
  · go_enter Try.func4, Try.ntmps4
    go_wp2_with (go_at_call 11; refine (zb1_true _ _ _ _ (by omega)).mono ?_; rintro e w' ⟨rfl, rfl⟩)
    go_ret
    exact ⟨rfl, rfl⟩

/-- The four digits of a control byte. -/
def dig4 (b : Int) : Nat → Int
  | 0 => 0
  | 1 => 0
  | 2 => b / 16
  | _ => b % 16

theorem dig4_range (b : Int) (h0 : 0 ≤ b) (h1 : b < 32) (k : Nat) : 0 ≤ dig4 b k ∧ dig4 b k ≤ 15 := by
  unfold dig4; split <;> omega

theorem dig4_acc (b : Int) (_h0 : 0 ≤ b) : acc (dig4 b) 4 = b := by
  simp only [acc, dig4]; omega

set_option maxHeartbeats 4000000 in
set_option maxRecDepth 100000 in
theorem trip_main (a0 : Option Addr) (l0 c0 : Nat) (ss : List Int) (w : World) (h0 : l0 ≤ 65536) (hs : RowAt w a0 l0 ss) (hc0 : a0 = none → c0 = 0) :
    Calls Try.prog 4 #[.slice a0 l0 c0] w fun e w' => e = .returned (.bool true) ∧ Below w.heap.size w w' := by
  obtain ⟨i0, hi, hz0, hz1, hz2⟩ := info_parts Try.info5
  have h0' : decide ((65536 : Int) < (l0 : Int)) = false := decide_eq_false (by omega)
  go_enter Try.func4, Try.ntmps4
  go_wp2_with (go_at_call 11; refine (zb1_true _ _ _ _ (by omega)).mono ?_; rintro e w' ⟨rfl, hw⟩; have hw := hw.symm; subst hw)
  refine (clone_any a0 l0 c0 ss w (by omega) hs hc0).mono ?_
  rintro e w1 ⟨gs, cs, rfl, hS, hC1⟩
  have hz1w : w.heap.size ≤ w1.heap.size := hC1.size
  go_wp2_with fail
  refine (zz_any w1.heap.size none gs 0 0 l0 cs [] ss w1 (by omega) h0 (Nat.le_refl _) (World.ownsRow_nil _ _ _ _) (RowAt.of_owns hS hs.by8) (fun x hx => ?_)).mono ?_
  · subst hx
    exact ⟨by simp [Value.ownBlock], (hS.lt x.block rfl).2⟩
  rintro e w2 ⟨g, N, cap, rfl, hG0, hC2, _⟩
  have hG : w2.ownsRow w1.heap.size 5 1 (.slice (some ⟨g, 0, none⟩) N cap) N (bys (quoted ss)) := by simpa [quoted] using hG0
  have hS2 := hC2.row hS (fun i _ e => by simp [Value.ownBlock] at e)
  have hB2 : Below w.heap.size w w2 := by
    refine Chg.below (S := fun _ => False) (hC1.trans hC2 (fun i _ e => by simp [Value.ownBlock] at e)) (Nat.le_refl _) (fun k hk h => h)
  clear hG0 hC2 hC1 hS
  have hQ := owns_len hG
  have hNl : N ≤ 2 + 6 * 65536 := by
    have e1 := quoted_len ss
    have e2 := escs_len ss
    have e3 := hs.size
    omega
  have hN2 : 2 ≤ N := by have := quoted_len ss; omega
  have hgl : g < w2.heap.size := (hG.lt g rfl).2
  have hcell : ∀ j, j < N → w2.cell? ⟨g, j, none⟩ = some (.int .u8 ((quoted ss).getD j 0)) := fun j hj => by
    rw [hG.cellAt j (by omega)]; exact getD_bys _ _ (by omega)
  have cF : w2.cell? ⟨g, 0, none⟩ = some (.int .u8 34) := by rw [hcell 0 (by omega), quoted_first]
  have cL : w2.cell? ⟨g, N - 1, none⟩ = some (.int .u8 34) := by rw [hcell (N - 1) (by omega), ← hQ, quoted_last]
  have HC : Hid (∀ j, j < N → w2.cell? ⟨g, j, none⟩ = some (.int .u8 ((quoted ss).getD j 0))) := hcell
  have HQ : Hid ((quoted ss).length = N) := hQ
  have hN2' : (2 : Int) ≤ (N : Int) := by omega
  clear hcell hQ
  have hd2 : decide ((N : Int) < 2) = false := decide_eq_false (by omega)
  clear hN2'
  go_wp2
  go_loopw [5, 6] (fun v i wr => ∃ k : Nat, k ≤ l0 ∧ i = .int .i64 (off ss k) ∧ ∃ ga cp, v = .slice ga k cp ∧ wr.ownsRow w2.heap.size 5 1 (.slice ga k cp) k (bys (ss.take k)) ∧ Chg (fun _ => False) w2 wr) (fun _ i _ => N - (intOf i).toNat)
  case atStart => exact ⟨0, Nat.zero_le _, rfl, none, 0, rfl, World.ownsRow_nil _ _ _ _, Chg.refl _ _⟩
  case round =>
    obtain ⟨k, hk, rfl, ga, cp, rfl, hV, hC⟩ := hrel
    have hzr : w2.heap.size ≤ wr.heap.size := hC.size
    by_cases hlt : k < l0
    · have hlk : k < ss.length := by rw [hs.size]; exact hlt
      have hof := off_fits ss k hlk
      have HS : Hid (off ss (k + 1) = off ss k + (esc (ss.getD k 0)).length) := off_succ ss k hlk
      have HV : Hid (bys (ss.take (k + 1)) = bys (ss.take k) ++ [.int .u8 (ss.getD k 0)]) := by
        unfold Hid; rw [take_snoc_getD _ _ hlk, bys_append]; rfl
      have hcr : ∀ t, t < (esc (ss.getD k 0)).length → wr.cell? ⟨g, off ss k + t, none⟩ = some (.int .u8 ((esc (ss.getD k 0)).getD t 0)) := fun t ht => by
        rw [hC.cell (p := ⟨g, off ss k + t, none⟩) hgl (fun h => h), HC.out _ (by have := HQ.out; omega), at_off ss k t hlk ht]
      have hr := hs.by8 (ss.getD k 0) (getD_mem _ _ hlk)
      have hof1 : 1 ≤ off ss k := by unfold off; omega
      rw [HQ.out] at hof
      have hgr : g < wr.heap.size := by omega
      clear hs hc0 cF cL hS2 hG
      generalize ss.getD k 0 = b at *
      generalize hii : off ss k = i at *
      generalize hyy : bys (ss.take k) = ys at *
      clear hii hyy
      obtain ⟨hr0, hr1⟩ := hr
      by_cases hA : 32 ≤ b ∧ ¬ b = 34 ∧ ¬ b = 92
      · obtain ⟨h32, n34, n92⟩ := hA
        have n34' : (b == 34) = false := by simpa using n34
        have n92' : (b != 92) = true := by simpa using n92
        have hE : esc b = [b] := by unfold esc; repeat (rw [if_neg (by omega)])
        rw [hE] at HS hof hcr
        have ci := hcr 0 (by simp)
        simp only [List.length_singleton] at hof
        have hof' : (i : Int) < (N : Int) - 1 := by omega
        have hiN : (i : Int) < (N : Int) := by omega
        simp at ci
        clear hcr hE n34 n92 hof
        go_wp2_with (at_builtin; refine wpList_append_lies _ rfl _ _ 22 rfl w2.heap.size 5 i0 (.int .u8 0) 1 1 Try.underlying22 hi hz0 hz1 hz2 rfl (by decide) (.slice ga k cp) k ys rfl (hV.alloc _) ⟨wr.heap.size, 0, none⟩ 1 1 [.int .u8 b] rfl rfl (World.news_of_block (cs := #[.int .u8 b]) (t := 5) (fr := (0, 0)) (heap_alloc_new wr _)) (by simp [Value.oneCell']) (by omega) (by unfold maxLen; omega) (by omega) (by simp; omega) (wr.heap.size + 1) (by simp) ?_; intro g5 cap5 w5 hV5 hgrow hat hlt5)
        have hC5 : Chg (fun _ => False) w2 w5 := (hC.alloc _).trans (Chg.of_grown hgrow) (fun j hj e => by have := (hV.lt j e).1; omega)
        clear hgrow hat hlt5 hC hV
        go_wp2
        go_roundw
        case rel => exact ⟨k + 1, by omega, by rw [HS.out]; simp, _, _, rfl, by rw [HV.out]; exact hV5, hC5⟩
        case measure => simp [intOf]; omega
      by_cases e34 : b = 34
      · subst e34
        rw [show esc 34 = [92, 34] from by decide] at HS hof hcr
        have ci := hcr 0 (by simp)
        have ci1 := hcr 1 (by simp)
        simp at ci ci1 hof
        have hof' : (i : Int) + 1 < (N : Int) - 1 := by omega
        have hiN : (i : Int) + 1 < (N : Int) := by omega
        have hof2 : (i : Int) < (N : Int) - 1 := by omega
        have hiN2 : (i : Int) < (N : Int) := by omega
        clear hcr hA hof
        go_wp2_with (at_builtin; refine wpList_append_lies _ rfl _ _ 22 rfl w2.heap.size 5 i0 (.int .u8 0) 1 1 Try.underlying22 hi hz0 hz1 hz2 rfl (by decide) (.slice ga k cp) k ys rfl (hV.alloc _) ⟨wr.heap.size, 0, none⟩ 1 1 [.int .u8 34] rfl rfl (World.news_of_block (cs := #[.int .u8 34]) (t := 5) (fr := (0, 0)) (heap_alloc_new wr _)) (by simp [Value.oneCell']) (by omega) (by unfold maxLen; omega) (by omega) (by simp; omega) (wr.heap.size + 1) (by simp) ?_; intro g5 cap5 w5 hV5 hgrow hat hlt5)
        have hC5 : Chg (fun _ => False) w2 w5 := (hC.alloc _).trans (Chg.of_grown hgrow) (fun j hj e => by have := (hV.lt j e).1; omega)
        clear hgrow hat hlt5 hC hV
        go_wp2
        go_roundw
        case rel => exact ⟨k + 1, by omega, by rw [HS.out]; simp, _, _, rfl, by rw [HV.out]; exact hV5, hC5⟩
        case measure => simp [intOf]; omega
      by_cases e92 : b = 92
      · subst e92
        rw [show esc 92 = [92, 92] from by decide] at HS hof hcr
        have ci := hcr 0 (by simp)
        have ci1 := hcr 1 (by simp)
        simp at ci ci1 hof
        have hof' : (i : Int) + 1 < (N : Int) - 1 := by omega
        have hiN : (i : Int) + 1 < (N : Int) := by omega
        have hof2 : (i : Int) < (N : Int) - 1 := by omega
        have hiN2 : (i : Int) < (N : Int) := by omega
        clear hcr hA hof
        go_wp2_with (at_builtin; refine wpList_append_lies _ rfl _ _ 22 rfl w2.heap.size 5 i0 (.int .u8 0) 1 1 Try.underlying22 hi hz0 hz1 hz2 rfl (by decide) (.slice ga k cp) k ys rfl (hV.alloc _) ⟨wr.heap.size, 0, none⟩ 1 1 [.int .u8 92] rfl rfl (World.news_of_block (cs := #[.int .u8 92]) (t := 5) (fr := (0, 0)) (heap_alloc_new wr _)) (by simp [Value.oneCell']) (by omega) (by unfold maxLen; omega) (by omega) (by simp; omega) (wr.heap.size + 1) (by simp) ?_; intro g5 cap5 w5 hV5 hgrow hat hlt5)
        have hC5 : Chg (fun _ => False) w2 w5 := (hC.alloc _).trans (Chg.of_grown hgrow) (fun j hj e => by have := (hV.lt j e).1; omega)
        clear hgrow hat hlt5 hC hV
        go_wp2
        go_roundw
        case rel => exact ⟨k + 1, by omega, by rw [HS.out]; simp, _, _, rfl, by rw [HV.out]; exact hV5, hC5⟩
        case measure => simp [intOf]; omega
      by_cases e8 : b = 8
      · subst e8
        rw [show esc 8 = [92, 98] from by decide] at HS hof hcr
        have ci := hcr 0 (by simp)
        have ci1 := hcr 1 (by simp)
        simp at ci ci1 hof
        have hof' : (i : Int) + 1 < (N : Int) - 1 := by omega
        have hiN : (i : Int) + 1 < (N : Int) := by omega
        have hof2 : (i : Int) < (N : Int) - 1 := by omega
        have hiN2 : (i : Int) < (N : Int) := by omega
        clear hcr hA hof
        go_wp2_with (at_builtin; refine wpList_append_lies _ rfl _ _ 22 rfl w2.heap.size 5 i0 (.int .u8 0) 1 1 Try.underlying22 hi hz0 hz1 hz2 rfl (by decide) (.slice ga k cp) k ys rfl (hV.alloc _) ⟨wr.heap.size, 0, none⟩ 1 1 [.int .u8 8] rfl rfl (World.news_of_block (cs := #[.int .u8 8]) (t := 5) (fr := (0, 0)) (heap_alloc_new wr _)) (by simp [Value.oneCell']) (by omega) (by unfold maxLen; omega) (by omega) (by simp; omega) (wr.heap.size + 1) (by simp) ?_; intro g5 cap5 w5 hV5 hgrow hat hlt5)
        have hC5 : Chg (fun _ => False) w2 w5 := (hC.alloc _).trans (Chg.of_grown hgrow) (fun j hj e => by have := (hV.lt j e).1; omega)
        clear hgrow hat hlt5 hC hV
        go_wp2
        go_roundw
        case rel => exact ⟨k + 1, by omega, by rw [HS.out]; simp, _, _, rfl, by rw [HV.out]; exact hV5, hC5⟩
        case measure => simp [intOf]; omega
      by_cases e9 : b = 9
      · subst e9
        rw [show esc 9 = [92, 116] from by decide] at HS hof hcr
        have ci := hcr 0 (by simp)
        have ci1 := hcr 1 (by simp)
        simp at ci ci1 hof
        have hof' : (i : Int) + 1 < (N : Int) - 1 := by omega
        have hiN : (i : Int) + 1 < (N : Int) := by omega
        have hof2 : (i : Int) < (N : Int) - 1 := by omega
        have hiN2 : (i : Int) < (N : Int) := by omega
        clear hcr hA hof
        go_wp2_with (at_builtin; refine wpList_append_lies _ rfl _ _ 22 rfl w2.heap.size 5 i0 (.int .u8 0) 1 1 Try.underlying22 hi hz0 hz1 hz2 rfl (by decide) (.slice ga k cp) k ys rfl (hV.alloc _) ⟨wr.heap.size, 0, none⟩ 1 1 [.int .u8 9] rfl rfl (World.news_of_block (cs := #[.int .u8 9]) (t := 5) (fr := (0, 0)) (heap_alloc_new wr _)) (by simp [Value.oneCell']) (by omega) (by unfold maxLen; omega) (by omega) (by simp; omega) (wr.heap.size + 1) (by simp) ?_; intro g5 cap5 w5 hV5 hgrow hat hlt5)
        have hC5 : Chg (fun _ => False) w2 w5 := (hC.alloc _).trans (Chg.of_grown hgrow) (fun j hj e => by have := (hV.lt j e).1; omega)
        clear hgrow hat hlt5 hC hV
        go_wp2
        go_roundw
        case rel => exact ⟨k + 1, by omega, by rw [HS.out]; simp, _, _, rfl, by rw [HV.out]; exact hV5, hC5⟩
        case measure => simp [intOf]; omega
      by_cases e10 : b = 10
      · subst e10
        rw [show esc 10 = [92, 110] from by decide] at HS hof hcr
        have ci := hcr 0 (by simp)
        have ci1 := hcr 1 (by simp)
        simp at ci ci1 hof
        have hof' : (i : Int) + 1 < (N : Int) - 1 := by omega
        have hiN : (i : Int) + 1 < (N : Int) := by omega
        have hof2 : (i : Int) < (N : Int) - 1 := by omega
        have hiN2 : (i : Int) < (N : Int) := by omega
        clear hcr hA hof
        go_wp2_with (at_builtin; refine wpList_append_lies _ rfl _ _ 22 rfl w2.heap.size 5 i0 (.int .u8 0) 1 1 Try.underlying22 hi hz0 hz1 hz2 rfl (by decide) (.slice ga k cp) k ys rfl (hV.alloc _) ⟨wr.heap.size, 0, none⟩ 1 1 [.int .u8 10] rfl rfl (World.news_of_block (cs := #[.int .u8 10]) (t := 5) (fr := (0, 0)) (heap_alloc_new wr _)) (by simp [Value.oneCell']) (by omega) (by unfold maxLen; omega) (by omega) (by simp; omega) (wr.heap.size + 1) (by simp) ?_; intro g5 cap5 w5 hV5 hgrow hat hlt5)
        have hC5 : Chg (fun _ => False) w2 w5 := (hC.alloc _).trans (Chg.of_grown hgrow) (fun j hj e => by have := (hV.lt j e).1; omega)
        clear hgrow hat hlt5 hC hV
        go_wp2
        go_roundw
        case rel => exact ⟨k + 1, by omega, by rw [HS.out]; simp, _, _, rfl, by rw [HV.out]; exact hV5, hC5⟩
        case measure => simp [intOf]; omega
      by_cases e12 : b = 12
      · subst e12
        rw [show esc 12 = [92, 102] from by decide] at HS hof hcr
        have ci := hcr 0 (by simp)
        have ci1 := hcr 1 (by simp)
        simp at ci ci1 hof
        have hof' : (i : Int) + 1 < (N : Int) - 1 := by omega
        have hiN : (i : Int) + 1 < (N : Int) := by omega
        have hof2 : (i : Int) < (N : Int) - 1 := by omega
        have hiN2 : (i : Int) < (N : Int) := by omega
        clear hcr hA hof
        go_wp2_with (at_builtin; refine wpList_append_lies _ rfl _ _ 22 rfl w2.heap.size 5 i0 (.int .u8 0) 1 1 Try.underlying22 hi hz0 hz1 hz2 rfl (by decide) (.slice ga k cp) k ys rfl (hV.alloc _) ⟨wr.heap.size, 0, none⟩ 1 1 [.int .u8 12] rfl rfl (World.news_of_block (cs := #[.int .u8 12]) (t := 5) (fr := (0, 0)) (heap_alloc_new wr _)) (by simp [Value.oneCell']) (by omega) (by unfold maxLen; omega) (by omega) (by simp; omega) (wr.heap.size + 1) (by simp) ?_; intro g5 cap5 w5 hV5 hgrow hat hlt5)
        have hC5 : Chg (fun _ => False) w2 w5 := (hC.alloc _).trans (Chg.of_grown hgrow) (fun j hj e => by have := (hV.lt j e).1; omega)
        clear hgrow hat hlt5 hC hV
        go_wp2
        go_roundw
        case rel => exact ⟨k + 1, by omega, by rw [HS.out]; simp, _, _, rfl, by rw [HV.out]; exact hV5, hC5⟩
        case measure => simp [intOf]; omega
      by_cases e13 : b = 13
      · subst e13
        rw [show esc 13 = [92, 114] from by decide] at HS hof hcr
        have ci := hcr 0 (by simp)
        have ci1 := hcr 1 (by simp)
        simp at ci ci1 hof
        have hof' : (i : Int) + 1 < (N : Int) - 1 := by omega
        have hiN : (i : Int) + 1 < (N : Int) := by omega
        have hof2 : (i : Int) < (N : Int) - 1 := by omega
        have hiN2 : (i : Int) < (N : Int) := by omega
        clear hcr hA hof
        go_wp2_with (at_builtin; refine wpList_append_lies _ rfl _ _ 22 rfl w2.heap.size 5 i0 (.int .u8 0) 1 1 Try.underlying22 hi hz0 hz1 hz2 rfl (by decide) (.slice ga k cp) k ys rfl (hV.alloc _) ⟨wr.heap.size, 0, none⟩ 1 1 [.int .u8 13] rfl rfl (World.news_of_block (cs := #[.int .u8 13]) (t := 5) (fr := (0, 0)) (heap_alloc_new wr _)) (by simp [Value.oneCell']) (by omega) (by unfold maxLen; omega) (by omega) (by simp; omega) (wr.heap.size + 1) (by simp) ?_; intro g5 cap5 w5 hV5 hgrow hat hlt5)
        have hC5 : Chg (fun _ => False) w2 w5 := (hC.alloc _).trans (Chg.of_grown hgrow) (fun j hj e => by have := (hV.lt j e).1; omega)
        clear hgrow hat hlt5 hC hV
        go_wp2
        go_roundw
        case rel => exact ⟨k + 1, by omega, by rw [HS.out]; simp, _, _, rfl, by rw [HV.out]; exact hV5, hC5⟩
        case measure => simp [intOf]; omega
      rw [esc_control b (by omega) e8 e9 e10 e12 e13] at HS hof hcr
      have ci := hcr 0 (by simp)
      have ci1 := hcr 1 (by simp)
      have c2 := hcr 2 (by simp)
      have c3 := hcr 3 (by simp)
      have c4 := hcr 4 (by simp)
      have c5 := hcr 5 (by simp)
      simp at ci ci1 c2 c3 c4 c5 hof
      have h32 : b < 32 := by omega
      have HU : Calls Try.prog 12 #[.slice (some ⟨g, 0, none⟩) N cap, .int .i64 ((i : Int) + 2), .int .i64 0] wr fun e w' => e = .returned (.int .i32 b) ∧ Chg (fun _ => False) wr w' := by
        have hd : ∀ j, 0 ≤ dig4 b j ∧ dig4 b j ≤ 15 := dig4_range b hr0 h32
        refine (zzunit_any g N cap ((i : Int) + 2) (dig4 b) hd wr (by omega) (by omega) (by omega) hgr ?_).mono ?_
        · intro j hj
          rcases (show j = 0 ∨ j = 1 ∨ j = 2 ∨ j = 3 from by omega) with rfl | rfl | rfl | rfl
          · rw [show ((i : Int) + 2 + (0 : Nat)).toNat = i + 2 from by omega, c2]; rfl
          · rw [show ((i : Int) + 2 + (1 : Nat)).toNat = i + 3 from by omega, c3]; rfl
          · rw [show ((i : Int) + 2 + (2 : Nat)).toNat = i + 4 from by omega, c4]; rfl
          · rw [show ((i : Int) + 2 + (3 : Nat)).toNat = i + 5 from by omega, c5]; rfl
        · rintro e w' ⟨rfl, hc⟩
          exact ⟨by rw [dig4_acc b hr0], hc⟩
      have n8 : (b == 8) = false := by simpa using e8
      have n9 : (b == 9) = false := by simpa using e9
      have n10 : (b == 10) = false := by simpa using e10
      have n12 : (b == 12) = false := by simpa using e12
      have n13 : (b == 13) = false := by simpa using e13
      have hof' : (i : Int) + 1 < (N : Int) - 1 := by omega
      have hiN : (i : Int) + 1 < (N : Int) := by omega
      have hof2 : (i : Int) < (N : Int) - 1 := by omega
      have hiN2 : (i : Int) < (N : Int) := by omega
      have hof6 : (i : Int) + 6 ≤ (N : Int) - 1 := by omega
      clear hcr hA hof c2 c3 c4 c5 e34 e92 e8 e9 e10 e12 e13
      go_wp2_with fail
      refine HU.mono ?_
      rintro e w3 ⟨rfl, hCu⟩
      have hV3 := hCu.row hV (fun _ _ h => h)
      have hC3 : Chg (fun _ => False) w2 w3 := hC.trans hCu (fun _ _ h => h)
      have hzr3 : w2.heap.size ≤ w3.heap.size := hC3.size
      clear hCu hC hV HU
      go_wp2_with (at_builtin; refine wpList_append_lies _ rfl _ _ 22 rfl w2.heap.size 5 i0 (.int .u8 0) 1 1 Try.underlying22 hi hz0 hz1 hz2 rfl (by decide) (.slice ga k cp) k ys rfl (hV3.alloc _) ⟨w3.heap.size, 0, none⟩ 1 1 [.int .u8 b] rfl rfl (World.news_of_block (cs := #[.int .u8 b]) (t := 5) (fr := (0, 0)) (heap_alloc_new w3 _)) (by simp [Value.oneCell']) (by omega) (by unfold maxLen; omega) (by omega) (by simp; omega) (w3.heap.size + 1) (by simp) ?_; intro g5 cap5 w5 hV5 hgrow hat hlt5)
      have hC5 : Chg (fun _ => False) w2 w5 := (hC3.alloc _).trans (Chg.of_grown hgrow) (fun j hj e => by have := (hV3.lt j e).1; omega)
      clear hgrow hat hlt5 hC3 hV3
      go_wp2
      go_roundw
      case rel => exact ⟨k + 1, by omega, by rw [HS.out]; simp, _, _, rfl, by rw [HV.out]; exact hV5, hC5⟩
      case measure => simp [intOf]; omega
    · obtain rfl : k = l0 := by omega
      have hoe := off_end ss
      rw [HQ.out, hs.size] at hoe
      rw [show ss.take k = ss from List.take_of_length_le (by rw [hs.size]; omega)] at hV
      have hoe' : ((off ss k : Nat) : Int) = (N : Int) - 1 := by omega
      have hof : ¬ ((off ss k : Nat) : Int) < (N : Int) - 1 := by omega
      have hS3 := hC.row hS2 (fun _ _ h => h)
      have hR1 := RowAt.of_owns hV hs.by8
      have hR2 := RowAt.of_owns hS3 hs.by8
      have hB3 : Below w.heap.size w wr := hB2.trans (hC.below hB2.size (fun _ _ h => h))
      clear hoe hoe' hC hV hS3 hS2 hG cF cL
      generalize off ss k = i at *
      go_wp2_with fail
      refine (equal_any _ _ k cp cs ss wr (by omega) hR1 hR2).mono ?_
      rintro e w3 ⟨rfl, hC7⟩
      go_wp2
      go_ret
      exact ⟨rfl, hB3.trans (hC7.below hB3.size (fun _ _ h => h))⟩

end Go.Proofs.Qxb6602691a
