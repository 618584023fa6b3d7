/-
  equalBytes (10): at two slices that hold the same bytes.
-/
import Derived.Test.Qxb6602691aClone
import Derived.Deep.QuietTactic
import Derived.BigQuiet
namespace Go.Proofs.Qxb6602691a
open Go.RowKit

theorem equal_zero (a b : Option Addr) (c d : Nat) (w : World) : Calls Try.prog 10 #[.slice a 0 c, .slice b 0 d] w fun e w' => e = .returned (.bool true) ∧ Chg (fun _ => False) w w' := by
  go_enter Try.func10, Try.ntmps10
  go_wp2
  refine wp_loop_rounds 1 ?_
  rw [rounds_succ]
  go_wp2
  go_ret
  exact ⟨rfl, Chg.refl _ _⟩

theorem equal_some (x y : Addr) (n c d : Nat) (xs : List Int) (w : World) (hl : n ≤ 1048576) (hn : 0 < n) (hx : RowAt w (some x) n xs) (hy : RowAt w (some y) n xs) :
    Calls Try.prog 10 #[.slice (some x) n c, .slice (some y) n d] w fun e w' => e = .returned (.bool true) ∧ Chg (fun _ => False) w w' := by
  obtain ⟨b1, o1, rfl, hb1, hc1⟩ := hx.plain hn
  obtain ⟨b2, o2, rfl, hb2, hc2⟩ := hy.plain hn
  clear hx hy
  have hne : ((n : Int) != (n : Int)) = false := by simp
  go_enter Try.func10, Try.ntmps10
  go_wp2
  go_loopw [5] (fun i wr => ∃ k : Nat, k ≤ n ∧ i = .int .i64 k ∧ Chg (fun _ => False) w wr) (fun i _ => n - (intOf i).toNat)
  case atStart => exact ⟨0, Nat.zero_le _, rfl, Chg.refl _ _⟩
  case round =>
    obtain ⟨k, hk, rfl, hch⟩ := hrel
    by_cases hlt : k < n
    · have h1 : wr.cell? ⟨b1, o1 + k, none⟩ = some (.int .u8 (xs.getD k 0)) := (hch.cell (p := ⟨b1, o1 + k, none⟩) hb1 (fun h => h)).trans (hc1 k hlt)
      have h2 : wr.cell? ⟨b2, o2 + k, none⟩ = some (.int .u8 (xs.getD k 0)) := (hch.cell (p := ⟨b2, o2 + k, none⟩) hb2 (fun h => h)).trans (hc2 k hlt)
      clear hc1 hc2
      have hlt' : (k : Int) < (n : Int) := by omega
      generalize xs.getD k 0 = q at *
      have hq : (q != q) = false := by simp
      go_wp2
      go_quiet (fail)
      go_wp2
      go_roundw
      case rel => exact ⟨k + 1, by omega, by go_num, ⟨hch.os, hch.tape, hch.output, hch.size, hch.block⟩⟩
      case measure => simp [intOf]; omega
    · obtain rfl : k = n := by omega
      go_wp2
      go_ret
      exact ⟨rfl, hch⟩

theorem equal_any (a b : Option Addr) (n c d : Nat) (xs : List Int) (w : World) (hl : n ≤ 1048576) (hx : RowAt w a n xs) (hy : RowAt w b n xs) :
    Calls Try.prog 10 #[.slice a n c, .slice b n d] w fun e w' => e = .returned (.bool true) ∧ Chg (fun _ => False) w w' := by
  rcases Nat.eq_zero_or_pos n with rfl | hn
  · exact equal_zero a b c d w
  · cases a with
    | none => exact absurd (hx.empty rfl) (by omega)
    | some x =>
      cases b with
      | none => exact absurd (hy.empty rfl) (by omega)
      | some y => exact equal_some x y n c d xs w hl hn hx hy

end Go.Proofs.Qxb6602691a
