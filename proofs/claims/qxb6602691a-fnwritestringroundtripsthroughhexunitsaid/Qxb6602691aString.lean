/-
  writeString (15): the walk.
-/
import Derived.Test.Qxb6602691aWrite
import Derived.Deep.RegionLaw
import Derived.Deep.DrawnRows
namespace Go.Proofs.Qxb6602691a
open Go.RowKit
attribute [local go_sem ↓] Go.wp_at_zero Go.wp_at_succ

set_option maxHeartbeats 1600000 in
theorem write_any (base p : Nat) (d q f u v : Value) (sa : Option Addr) (n m sc : Nat) (xs ss : List Int) (w : World) (hn : n ≤ 1048576) (hm : m ≤ 65536) (hb : base ≤ w.heap.size)
    (hbx : w.heap[p]? = some (box d q f v u)) (hown : w.ownsRow base 5 1 v n (bys xs)) (hs : RowAt w sa m ss) (hne : ∀ x, sa = some x → v.ownBlock ≠ some x.block ∧ x.block ≠ p) :
    Calls Try.prog 15 #[.pointer (some ⟨p, 0, none⟩), .slice sa m sc] w fun e w' => e = .returned (.tuple #[]) ∧ ∃ g N cap,
      Wr base p d q f u v w (xs ++ [34] ++ escs ss ++ [34]) (.slice (some ⟨g, 0, none⟩) N cap) N w' := by
  obtain ⟨i0, hi, hz0, hz1, hz2⟩ := info_parts Try.info5
  have hW : Wr base p d q f u v w xs v n w := ⟨hbx, hown, fun g e => .inl e, Chg.refl _ _⟩
  have hxn : xs.length = n := by simpa [bys] using hown.1
  have hc3 := box_cell hbx
  have hp3 := box_lt hbx
  go_enter Try.func15, Try.ntmps15
  go_wp2_with (at_builtin; refine wpList_append_lies _ rfl _ _ 22 rfl base 5 i0 (.int .u8 0) 1 1 Try.underlying22 hi hz0 hz1 hz2 rfl (by decide) v n (bys xs) rfl (hown.alloc _) ⟨w.heap.size, 0, none⟩ 1 1 [.int .u8 34] rfl rfl (World.news_of_block (cs := #[.int .u8 34]) (t := 5) (fr := (0, 0)) (heap_alloc_new w _)) (by simp [Value.oneCell']) (by omega) (by unfold maxLen; omega) (by omega) (by simp; omega) (w.heap.size + 1) (by simp) ?_; intro g cap w1 hown1 hgrow hat hlt; obtain ⟨hb1, hW1⟩ := hW.push (news := [34]) ((Chg.refl _ w).alloc _) (by simp) hown1 hgrow hat; have hc1 := box_cell hb1; have hf1 := box_free hb1)
  have HX : Hid (xs.length = n) := hxn
  clear hc1 hf1 hb1 hlt hat hgrow hown1 hc3 hp3 hW hown hbx hxn
  go_loopw [18] (fun i wr => ∃ k : Nat, k ≤ m ∧ i = .int .i64 k ∧ ∃ g N cap, Wr base p d q f u v w (xs ++ [34] ++ escs (ss.take k)) (.slice (some ⟨g, 0, none⟩) N cap) N wr) (fun i _ => m - (intOf i).toNat)
  case atStart => exact ⟨0, Nat.zero_le _, rfl, g, n + 1, cap, by simpa [escs] using hW1⟩
  case round =>
    clear hW1
    obtain ⟨k, hk, rfl, g, N, cap, hW⟩ := hrel
    have hN : N ≤ 1048576 + 1 + 6 * 65536 := by
      have h1 := hW.own.1
      have h0 := HX.out
      have h2 := escs_len (ss.take k)
      have h3 : (ss.take k).length ≤ k := List.length_take_le _ _
      simp [bys] at h1
      omega
    have hc3 := box_cell hW.bx
    have hp3 := box_lt hW.bx
    have hown := hW.own
    have hsz : base ≤ wr.heap.size := Nat.le_trans hb hW.chg.size
    by_cases hlt : k < m
    · obtain ⟨x, rfl⟩ : ∃ x, sa = some x := by
        cases hsa : sa with
        | none => exact absurd (hs.empty hsa) (by omega)
        | some x => exact ⟨x, rfl⟩
      obtain ⟨sb, so, rfl, hsb, hsc⟩ := hs.plain (by omega)
      obtain ⟨hne, hnp⟩ := hne _ rfl
      have hcs : wr.cell? ⟨sb, so + k, none⟩ = some (.int .u8 (ss.getD k 0)) := (hW.chg.cell (p := ⟨sb, so + k, none⟩) hsb (by simp only; rintro (h | h); exact hnp h; exact hne h)).trans (hsc k hlt)
      have hr := hs.by8 (ss.getD k 0) (getD_mem _ _ (by rw [hs.size]; omega))
      have HT : Hid (xs ++ [34] ++ escs (ss.take (k + 1)) = xs ++ [34] ++ escs (ss.take k) ++ esc (ss.getD k 0)) := by
        unfold Hid; rw [take_snoc_getD _ _ (by rw [hs.size]; omega), escs_snoc]; simp
      clear hsc hs hne hnp
      generalize ss.getD k 0 = b at *
      generalize hY : xs ++ [34] ++ escs (ss.take k) = ys at *
      clear hY
      have hlt' : (k : Int) < (m : Int) := by omega
      obtain ⟨hr0, hr1⟩ := hr
      by_cases hA : 32 ≤ b ∧ ¬ b = 34 ∧ ¬ b = 92
      · obtain ⟨h32, n34, n92⟩ := hA
        have n34' : (b != 34) = true := by simpa using n34
        have n92' : (b != 92) = true := by simpa using n92
        have hE : esc b = [b] := by unfold esc; repeat (rw [if_neg (by omega)])
        rw [hE] at HT
        clear hE n34 n92
        go_wp2_with (at_builtin; refine wpList_append_lies _ rfl _ _ 22 rfl base 5 i0 (.int .u8 0) 1 1 Try.underlying22 hi hz0 hz1 hz2 rfl (by decide) (.slice (some ⟨g, 0, none⟩) N cap) N (bys ys) rfl (hown.alloc _) ⟨wr.heap.size, 0, none⟩ 1 1 [.int .u8 b] rfl rfl (World.news_of_block (cs := #[.int .u8 b]) (t := 5) (fr := (0, 0)) (heap_alloc_new wr _)) (by simp [Value.oneCell']) (by omega) (by unfold maxLen; omega) (by omega) (by simp; omega) (wr.heap.size + 1) (by simp) ?_; intro g' cap' w2 hown2 hgrow hat hlt; obtain ⟨hb2, hW2⟩ := hW.push (news := [b]) ((Chg.refl _ wr).alloc _) (by simp) hown2 hgrow hat; have hc2 := box_cell hb2; have hf2 := box_free hb2; clear hown2 hgrow hat hlt hb2)
        go_roundw
        case rel => exact ⟨k + 1, by omega, by go_num, g', N + 1, cap', by rw [HT.out]; exact hW2⟩
        case measure => simp [intOf]; omega
      · by_cases hB : b = 34 ∨ b = 92 ∨ b = 8 ∨ b = 9 ∨ b = 10 ∨ b = 12 ∨ b = 13
        · obtain ⟨i, L, hi0, hi6, hidx, hlet, hE⟩ := esc_letter b hB
          rw [hE] at HT
          have hI : Hid (Lib.indexByte [34, 92, 8, 12, 10, 13, 9] b.toNat.toUInt8 = i) := hidx
          clear hE hidx
          have hw1 : IntKind.i64.wrap (i + 1) = i + 1 := by rw [IntKind.wrap_i64]; omega
          have hi1 : 0 ≤ i + 1 := by omega
          have hi8 : i + 1 < 8 := by omega
          rcases (show b < 32 ∨ (32 ≤ b ∧ (b != 34) = false) ∨ (32 ≤ b ∧ (b != 34) = true ∧ (b != 92) = false) from by simp; omega) with h1 | ⟨h1, h2⟩ | ⟨h1, h2, h3⟩
          all_goals clear hA hB
          all_goals go_wp2_with (go_at_call 17; refine (index_esc b i _ hI.out).mono ?_; rintro e w' ⟨rfl, rfl⟩)
          all_goals go_region_law ((refine step_append_lies _ (by rfl) _ _ _ (by rfl) base 5 i0 (.int .u8 0) 1 1 Try.underlying22 hi hz0 hz1 hz2 rfl (by decide) (.slice (some ⟨g, 0, none⟩) N cap) N (bys ys) (by rfl) ((hown.alloc _).drew) ⟨w'.heap.size, 0, none⟩ 2 2 [.int .u8 92, .int .u8 L] (by rfl) (by rfl) (World.news_of_block (cs := #[.int .u8 92, .int .u8 L]) (t := 5) (fr := (0, 0)) (heap_alloc_new w' _)) (by simp [Value.oneCell']) (by omega) (by unfold maxLen; omega) (by omega) (by simp; omega) (w'.heap.size + 1) (by simp) ?_; intro g' cap' w2 hown2 hgrow hat hlt; obtain ⟨hb2, hW2⟩ := hW.push (news := [92, L]) (((Chg.refl _ w').alloc _).drew) (by simp) hown2 hgrow hat; have hc2 := box_cell hb2; have hf2 := box_free hb2; clear hown2 hgrow hat hlt hb2))
          all_goals (go_wp2; go_roundw; (case rel => exact ⟨k + 1, by omega, by go_num, g', N + 2, cap', by rw [HT.out]; exact hW2⟩); (case measure => simp [intOf]; omega))
        · have e8 : ¬ b = 8 := by omega
          have e9 : ¬ b = 9 := by omega
          have e10 : ¬ b = 10 := by omega
          have e12 : ¬ b = 12 := by omega
          have e13 : ¬ b = 13 := by omega
          rw [esc_control b (by omega) e8 e9 e10 e12 e13] at HT
          have hI : Hid (Lib.indexByte [34, 92, 8, 12, 10, 13, 9] b.toNat.toUInt8 = -1) := index_none b hr0 (by omega) e8 e9 e10 e12 e13
          have h32 : b < 32 := by omega
          have h15 := u8_and15 (x := b) hr0 (by omega)
          clear hA hB e8 e9 e10 e12 e13
          have hx1 := hex_at (b / 16) (by omega) (by omega)
          have hx2 := hex_at (b % 16) (by omega) (by omega)
          have hq0 : 0 ≤ b / 16 := by omega
          have hq1 : b / 16 < 16 := by omega
          have hq2 : 0 ≤ b % 16 := by omega
          have hq3 : b % 16 < 16 := by omega
          go_wp2_with (go_at_call 17; refine (index_esc b (-1) _ hI.out).mono ?_; rintro e w' ⟨rfl, rfl⟩)
          go_region_law ((refine step_append_lies _ (by rfl) _ _ _ (by rfl) base 5 i0 (.int .u8 0) 1 1 Try.underlying22 hi hz0 hz1 hz2 rfl (by decide) (.slice (some ⟨g, 0, none⟩) N cap) N (bys ys) (by rfl) ((hown.alloc _).drew) ⟨w'.heap.size, 0, none⟩ 6 6 [.int .u8 92, .int .u8 117, .int .u8 48, .int .u8 48, .int .u8 (hx (b / 16)), .int .u8 (hx (b % 16))] (by rfl) (by rfl) (World.news_of_block (cs := #[.int .u8 92, .int .u8 117, .int .u8 48, .int .u8 48, .int .u8 (hx (b / 16)), .int .u8 (hx (b % 16))]) (t := 5) (fr := (0, 0)) (heap_alloc_new w' _)) (by simp [Value.oneCell']) (by omega) (by unfold maxLen; omega) (by omega) (by simp; omega) (w'.heap.size + 1) (by simp) ?_; intro g' cap' w2 hown2 hgrow hat hlt; obtain ⟨hb2, hW2⟩ := hW.push (news := [92, 117, 48, 48, hx (b / 16), hx (b % 16)]) (((Chg.refl _ w').alloc _).drew) (by simp) hown2 hgrow hat; have hc2 := box_cell hb2; have hf2 := box_free hb2; clear hown2 hgrow hat hlt hb2))
          all_goals (go_wp2; go_roundw; (case rel => exact ⟨k + 1, by omega, by go_num, g', N + 6, cap', by rw [HT.out]; exact hW2⟩); (case measure => simp [intOf]; omega))
    · obtain rfl : k = m := by omega
      go_wp2_with (at_builtin; refine wpList_append_lies _ rfl _ _ 22 rfl base 5 i0 (.int .u8 0) 1 1 Try.underlying22 hi hz0 hz1 hz2 rfl (by decide) (.slice (some ⟨g, 0, none⟩) N cap) N _ rfl (hown.alloc _) ⟨wr.heap.size, 0, none⟩ 1 1 [.int .u8 34] rfl rfl (World.news_of_block (cs := #[.int .u8 34]) (t := 5) (fr := (0, 0)) (heap_alloc_new wr _)) (by simp [Value.oneCell']) (by omega) (by unfold maxLen; omega) (by omega) (by simp; omega) (wr.heap.size + 1) (by simp) ?_; intro g' cap' w2 hown2 hgrow hat hlt; obtain ⟨hb2, hW2⟩ := hW.push (news := [34]) ((Chg.refl _ wr).alloc _) (by simp) hown2 hgrow hat; have hc2 := box_cell hb2; have hf2 := box_free hb2; clear hown2 hgrow hat hlt hb2)
      go_end0
      have ht : ss.take k = ss := List.take_of_length_le (by rw [hs.size]; omega)
      rw [ht] at hW2
      exact ⟨rfl, g', N + 1, cap', hW2⟩

end Go.Proofs.Qxb6602691a
