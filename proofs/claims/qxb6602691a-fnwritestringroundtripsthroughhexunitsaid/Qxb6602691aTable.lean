/-
  FnWriteStringMatchesEscapeTable (3): the walk.
-/
import Derived.Test.Qxb6602691aZZ
import Derived.Test.Qxb6602691aEqual
namespace Go.Proofs.Qxb6602691a
open Go.RowKit

theorem zb_true (a0 a1 : Option Addr) (l0 c0 l1 c1 : Nat) (w : World) (h : l0 + l1 ≤ 1048576) : Calls Try.prog 6 #[.slice a0 l0 c0, .slice a1 l1 c1] w fun e w' => e = .returned (.bool true) ∧ w' = w := by
  have h0 : (l0 : Int) ≤ 1048576 := by omega
  have h1 : (l1 : Int) ≤ 1048576 := by omega
  have h2 : (l0 : Int) + (l1 : Int) ≤ 1048576 := by omega
  go_enter Try.func6, Try.ntmps6
  go_wp2
  go_ret
  exact ⟨rfl, rfl⟩

theorem zb_false (a0 a1 : Option Addr) (l0 c0 l1 c1 : Nat) (w : World) (h : 1048576 < l0 + l1) (hm0 : l0 ≤ maxLen) (hm1 : l1 ≤ maxLen) : Calls Try.prog 6 #[.slice a0 l0 c0, .slice a1 l1 c1] w fun e w' => e = .returned (.bool false) ∧ w' = w := by
  unfold maxLen at hm0 hm1
  by_cases h0 : (1048576 : Int) < (l0 : Int)
  · go_enter Try.func6, Try.ntmps6
    go_wp2
    go_ret
    exact ⟨rfl, rfl⟩
  · by_cases h1 : (1048576 : Int) < (l1 : Int)
    · go_enter Try.func6, Try.ntmps6
      go_wp2
      go_ret
      exact ⟨rfl, rfl⟩
    · have h2 : (1048576 : Int) < (l0 : Int) + (l1 : Int) := by omega
      go_enter Try.func6, Try.ntmps6
      go_wp2
      go_ret
      exact ⟨rfl, rfl⟩

/-- Too long: the law says true at once. -/
theorem table_long (a0 a1 : Option Addr) (l0 c0 l1 c1 : Nat) (w : World) (h : 1048576 < l0 + l1) (hm0 : l0 ≤ maxLen) (hm1 : l1 ≤ maxLen) : Calls Try.prog 3 #[.slice a0 l0 c0, .slice a1 l1 c1] w fun e w' => e = .returned (.bool true) ∧ w' = w := by
  go_enter Try.func3, Try.ntmps3
  go_wp2_with (go_at_call 6; refine (zb_false _ _ _ _ _ _ _ h hm0 hm1).mono ?_; rintro e w' ⟨rfl, rfl⟩)
  go_ret
  exact ⟨rfl, rfl⟩

theorem table_mid (a0 a1 : Option Addr) (l0 c0 l1 c1 : Nat) (w : World) (h : l0 + l1 ≤ 1048576) (h2 : 65536 < l0 ∨ 65536 < l1) : Calls Try.prog 3 #[.slice a0 l0 c0, .slice a1 l1 c1] w fun e w' => e = .returned (.bool true) ∧ w' = w := by
  by_cases h0 : (65536 : Int) < (l0 : Int)
  · go_enter Try.func3, Try.ntmps3
    go_wp2_with (go_at_call 6; refine (zb_true _ _ _ _ _ _ _ h).mono ?_; rintro e w' ⟨rfl, rfl⟩)
    go_ret
    exact ⟨rfl, rfl⟩
  · have h1 : (65536 : Int) < (l1 : Int) := by omega
    go_enter Try.func3, Try.ntmps3
    go_wp2_with (go_at_call 6; refine (zb_true _ _ _ _ _ _ _ h).mono ?_; rintro e w' ⟨rfl, rfl⟩)
    go_ret
    exact ⟨rfl, rfl⟩

theorem owns_none {w : World} {base n c : Nat} {xs : List Value} (h : w.ownsRow base 5 1 (.slice none n c) n xs) : c = 0 := by
  rcases h.2 with ⟨hv, _⟩ | ⟨g, cap, cur, hv, _⟩
  · exact (Value.slice.inj hv).2.2
  · cases hv

theorem owns_len {w : World} {base n : Nat} {v : Value} {xs : List Int} (h : w.ownsRow base 5 1 v n (bys xs)) : xs.length = n := by simpa [bys] using h.1

set_option maxHeartbeats 800000 in
theorem table_main (a0 a1 : Option Addr) (l0 c0 l1 c1 : Nat) (os ss : List Int) (w : World) (h : l0 + l1 ≤ 1048576) (h0 : l0 ≤ 65536) (h1 : l1 ≤ 65536) (ho : RowAt w a0 l0 os) (hs : RowAt w a1 l1 ss) (hc0 : a0 = none → c0 = 0) (hc1 : a1 = none → c1 = 0) :
    Calls Try.prog 3 #[.slice a0 l0 c0, .slice a1 l1 c1] w fun e w' => e = .returned (.bool true) ∧ Below w.heap.size w w' := by
  obtain ⟨i0, hi, hz0, hz1, hz2⟩ := info_parts Try.info5
  have h0' : decide ((65536 : Int) < (l0 : Int)) = false := decide_eq_false (by omega)
  have h1' : decide ((65536 : Int) < (l1 : Int)) = false := decide_eq_false (by omega)
  go_enter Try.func3, Try.ntmps3
  go_wp2_with (go_at_call 6; refine (zb_true _ _ _ _ _ _ _ h).mono ?_; rintro e w' ⟨rfl, hw⟩; have hw := hw.symm; subst hw)
  refine (clone_any a0 l0 c0 os w (by omega) ho hc0).mono ?_
  rintro e w1 ⟨ga, cp, rfl, hO, hC1⟩
  go_wp2_with fail
  refine (clone_any a1 l1 c1 ss w1 (by omega) (hs.kept hC1 (fun _ _ h => h)) hc1).mono ?_
  rintro e w2 ⟨gs, cs, rfl, hS, hC2⟩
  have hO2 := hC2.row hO (fun _ _ h => h)
  go_wp2_with fail
  refine (clone_any ga l0 cp os w2 (by omega) (RowAt.of_owns hO2 ho.by8) (fun e => by subst e; exact owns_none hO)).mono ?_
  rintro e w3 ⟨gw, cw, rfl, hV, hC3⟩
  have hz3 : w2.heap.size ≤ w3.heap.size := hC3.size
  go_wp2_with (at_builtin; refine wpList_append_lies _ rfl _ _ 22 rfl w2.heap.size 5 i0 (.int .u8 0) 1 1 Try.underlying22 hi hz0 hz1 hz2 rfl (by decide) (.slice gw l0 cw) l0 (bys os) rfl (hV.alloc _) ⟨w3.heap.size, 0, none⟩ 1 1 [.int .u8 34] rfl rfl (World.news_of_block (cs := #[.int .u8 34]) (t := 5) (fr := (0, 0)) (heap_alloc_new w3 _)) (by simp [Value.oneCell']) (by omega) (by unfold maxLen; omega) (by omega) (by simp; omega) (w3.heap.size + 1) (by simp) ?_; intro g1 cap1 w4 hV4 hgrow hat hlt)
  have hC4 : Chg (fun _ => False) w2 w4 := by
    refine (hC3.alloc _).trans (Chg.of_grown hgrow) (fun i hi e => ?_)
    have := (hV.lt i e).1
    omega
  clear hgrow hat hlt hC3 hz3
  go_loopw [5, 6] (fun v i wr => ∃ k : Nat, k ≤ l1 ∧ i = .int .i64 k ∧ ∃ g N cap, v = .slice (some ⟨g, 0, none⟩) N cap ∧ wr.ownsRow w2.heap.size 5 1 (.slice (some ⟨g, 0, none⟩) N cap) N (bys (os ++ [34] ++ escs (ss.take k))) ∧ Chg (fun _ => False) w2 wr) (fun _ i _ => l1 - (intOf i).toNat)
  case atStart => exact ⟨0, Nat.zero_le _, rfl, g1, l0 + 1, cap1, rfl, by simpa [escs, bys_append, bys] using hV4, hC4⟩
  case round =>
    clear hV4 hC4 hV
    obtain ⟨k, hk, rfl, g, N, cap, rfl, hV, hC⟩ := hrel
    have hN : N ≤ 65536 + 1 + 6 * 65536 := by
      have e1 := owns_len hV
      have e2 := escs_len (ss.take k)
      have e3 : (ss.take k).length ≤ k := List.length_take_le _ _
      have e4 := ho.size
      simp at e1
      omega
    have hzr : w2.heap.size ≤ wr.heap.size := hC.size
    have hSr := hC.row hS (fun _ _ h => h)
    by_cases hlt : k < l1
    · have hRr := RowAt.of_owns hSr hs.by8
      obtain ⟨x, rfl⟩ : ∃ x, gs = some x := by
        cases hsa : gs with
        | none => exact absurd (hRr.empty hsa) (by omega)
        | some x => exact ⟨x, rfl⟩
      obtain ⟨sb, so, rfl, hsb, hsc⟩ := hRr.plain (by omega)
      have hcs := hsc k hlt
      have hr := hs.by8 (ss.getD k 0) (getD_mem _ _ (by rw [hs.size]; omega))
      have HT : Hid (os ++ [34] ++ escs (ss.take (k + 1)) = os ++ [34] ++ escs (ss.take k) ++ esc (ss.getD k 0)) := by
        unfold Hid; rw [take_snoc_getD _ _ (by rw [hs.size]; omega), escs_snoc]; simp
      have hlt' : (k : Int) < (l1 : Int) := by omega
      clear hsc hRr hSr hsb
      generalize ss.getD k 0 = b at *
      go_wp2_with fail
      refine (app_any w2.heap.size _ N _ b wr hr.1 (by omega) hzr hV).mono ?_
      rintro e w5 ⟨g5, cap5, rfl, hV5, hC5, _⟩
      have hC5' : Chg (fun _ => False) w2 w5 := hC.trans hC5 (fun i hi e => by have := (hV.lt i e).1; omega)
      clear hC5 hC hV
      go_wp2
      go_roundw
      case rel => exact ⟨k + 1, by omega, by go_num, g5, _, cap5, rfl, by rw [HT.out]; exact hV5, hC5'⟩
      case measure => simp [intOf]; omega
    · obtain rfl : k = l1 := by omega
      rw [show ss.take k = ss from List.take_of_length_le (by rw [hs.size]; omega)] at hV
      go_wp2_with (first | (at_builtin; refine wpList_append_lies _ rfl _ _ 22 rfl w2.heap.size 5 i0 (.int .u8 0) 1 1 Try.underlying22 hi hz0 hz1 hz2 rfl (by decide) _ N _ rfl (hV.alloc _) ⟨wr.heap.size, 0, none⟩ 1 1 [.int .u8 34] rfl rfl (World.news_of_block (cs := #[.int .u8 34]) (t := 5) (fr := (0, 0)) (heap_alloc_new wr _)) (by simp [Value.oneCell']) (by omega) (by unfold maxLen; omega) (by omega) (by simp; omega) (wr.heap.size + 1) (by simp) ?_; intro g5 cap5 w5 hV5 hgrow hat hlt5) | fail)
      have hC5 : Chg (fun _ => False) w2 w5 := by
        refine (hC.alloc _).trans (Chg.of_grown hgrow) (fun i hi e => ?_)
        have := (hV.lt i e).1
        omega
      have hO5 := hC5.row hO2 (fun _ _ h => h)
      have hS5 := hC5.row hS (fun _ _ h => h)
      have hz2 : w.heap.size ≤ w1.heap.size := hC1.size
      have hz3 : w1.heap.size ≤ w2.heap.size := hC2.size
      have hz5 : w2.heap.size ≤ w5.heap.size := hC5.size
      refine (zz_any w.heap.size ga gs cp l0 k cs os ss w5 (by omega) h1 (by omega) hO5 (RowAt.of_owns hS5 hs.by8) (fun x hx => ?_)).mono ?_
      · subst hx
        have e1 := hS.lt x.block rfl
        refine ⟨fun e => ?_, by omega⟩
        have e2 := hO.lt x.block e
        omega
      · rintro e w6 ⟨g6, N6, cap6, rfl, hG, hC6, _⟩
        have hV6 := hC6.row hV5 (fun i e e' => by have e1 := hV5.lt i e; have e2 := hO.lt i e'; omega)
        have hN6 := owns_len hG
        have hN5 : (os ++ [34] ++ escs ss ++ [34]).length = N + 1 := by
          have := hV5.1
          simp [bys] at this ⊢
          omega
        have hNN : N6 = N + 1 := by omega
        subst hNN
        have hV6' : w6.ownsRow w2.heap.size 5 1 (.slice (some ⟨g5, 0, none⟩) (N + 1) cap5) (N + 1) (bys (os ++ [34] ++ escs ss ++ [34])) := by
          rw [bys_append (os ++ [34] ++ escs ss) [34]]; exact hV6
        have h8 : ∀ n ∈ os ++ [34] ++ escs ss ++ [34], 0 ≤ n ∧ n ≤ 255 := by
          intro n hn
          simp only [List.mem_append, List.mem_singleton] at hn
          rcases hn with ((hn | hn) | hn) | hn
          · exact ho.by8 n hn
          · omega
          · exact escs_range ss hs.by8 n hn
          · omega
        have hB : Below w.heap.size w w6 := by
          refine Chg.below (S := fun k => w.heap.size ≤ k) ?_ (Nat.le_refl _) (fun k hk h => by omega)
          have c1 : Chg (fun k => w.heap.size ≤ k) w w5 := ((hC1.mono (fun _ _ h => h.elim)).trans hC2 (fun _ _ h => h.elim)).trans hC5 (fun _ _ h => h.elim)
          exact c1.trans hC6 (fun i hi e => (hO.lt i e).1)
        clear hC6 hC5 hgrow hat hV6 hV5 hO5 hS5 hV hC hC1 hC2 hO hS hO2 hSr
        go_wp2_with fail
        refine (equal_any _ _ (N + 1) cap6 cap5 _ w6 (by omega) (RowAt.of_owns hG h8) (RowAt.of_owns hV6' h8)).mono ?_
        rintro e w7 ⟨rfl, hC7⟩
        go_wp2
        go_ret
        exact ⟨rfl, hB.trans (hC7.below hB.size (fun _ _ h => h))⟩

end Go.Proofs.Qxb6602691a
