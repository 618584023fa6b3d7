/-
  zzShowBreaks (14): its contract.
-/
import Derived.Test.Qxb6605290aUnq
namespace Go.Proofs.Qxb6605290a
open Go.RowKit

/-- What some more bytes do to an owned row. -/
theorem app_many {B : Nat} {w wr w1 : World} {g n cap g' cap' m : Nat} {acc xs : List UInt8} {o : Obj} (h : wr.ownsRow B 5 1 (.slice (some ⟨g, 0, none⟩) n cap) n (Lib.byteCells acc))
    (h1 : w1.ownsRow B 5 1 (.slice (some ⟨g', 0, none⟩) (n + m) cap') (n + m) (Lib.byteCells acc ++ Lib.byteCells xs)) (hg : (wr.alloc o).grownBy w1 (Value.slice (some ⟨g, 0, none⟩) n cap).ownBlock) (hB : B ≤ wr.heap.size) (hb : Below B w wr) :
    w1.ownsRow B 5 1 (.slice (some ⟨g', 0, none⟩) (n + m) cap') (n + m) (Lib.byteCells (acc ++ xs)) ∧ B ≤ w1.heap.size ∧ Below B w w1 := by
  have hs := hg.size
  refine ⟨by rw [Lib.byteCells_append]; exact h1, by simp at hs; omega, (hb.alloc hB o).grown hg (by simp; omega) (fun k hk => (h.lt k hk).1)⟩

/-- What holds of zzShowBreaks' loop at byte k. -/
def SRel (s : ByteArray) (B : Nat) (w : World) (v : Value) (k : Nat) (wr : World) : Prop :=
  ∃ acc g n cap, v = .slice (some ⟨g, 0, none⟩) n cap ∧ wr.ownsRow B 5 1 (.slice (some ⟨g, 0, none⟩) n cap) n (Lib.byteCells acc) ∧ acc = shown (s.data.toList.take k) ∧
    n ≤ 2 * k ∧ B ≤ wr.heap.size ∧ Below B w wr

theorem shown_step (l : List UInt8) (k : Nat) (x : UInt8) (h : l[k]? = some x) : shown (l.take (k + 1)) = shown (l.take k) ++ out1 x := by
  rw [take_at l k x h, shown_append]; simp [shown]

set_option maxHeartbeats 2000000 in
set_option maxRecDepth 100000 in
theorem show_any (s : ByteArray) (w : World) (hs : s.size ≤ 16777216) :
    Calls Try.prog 14 #[.string s] w fun r w' => r = .returned (.string ⟨(shown s.data.toList).toArray⟩) ∧ Below w.heap.size w w' := by
  obtain ⟨i0, hi, hz0, hz1, hz2⟩ := info_parts Try.info5
  go_enter Try.func14, Try.ntmps14
  go_wp2_with (at_make; refine wpList_make_own _ rfl _ _ 30 rfl w.heap.size 5 i0 (.int .u8 0) 1 Try.underlying30 hi hz0 hz1 .i64 .i64 _ (2 * s.size) rfl rfl (by omega) (by rw [hz2]; omega) (by unfold maxLen; omega) (Nat.le_refl _) ?_; intro w1 hown1 hgr1)
  have hR0 : SRel s w.heap.size w (.slice (some ⟨w.heap.size, 0, none⟩) 0 (2 * s.size)) 0 w1 := ⟨[], _, _, _, rfl, hown1, by simp [shown], by omega, hgr1.size, (Below.refl _ _).grown hgr1 (Nat.le_refl _) (fun k hk => by cases hk)⟩
  clear hown1 hgr1
  go_loopw [3, 4] (fun v i wr => ∃ k : Nat, k ≤ s.size ∧ i = .int .i64 k ∧ SRel s w.heap.size w v k wr) (fun _ i _ => s.size - (intOf i).toNat)
  case atStart => exact ⟨0, Nat.zero_le _, rfl, hR0⟩
  case round =>
    clear hR0
    obtain ⟨k, hk, rfl, acc, g, n, cap, rfl, hO, hacc, hn, hB, hbl⟩ := hrel
    have HA : Hid (acc = shown (s.data.toList.take k)) := hacc
    clear hacc
    generalize hBB : w.heap.size = B at *
    by_cases hlt : k < s.size
    · obtain ⟨x, hx⟩ : ∃ x : UInt8, s[k]'hlt = x := ⟨_, rfl⟩
      have hX := data_at s k hlt
      rw [hx] at hX
      have HM : Hid (acc ++ out1 x = shown (s.data.toList.take (k + 1))) := by
        unfold Hid; rw [shown_step _ k x hX, HA.out]
      clear HA hX
      have hlt' : (k : Int) < (s.size : Int) := by omega
      by_cases x10 : x = 10
      · subst x10
        go_wp2_with (first | (go_at_call 27; refine (letter_nl _).mono ?_; rintro r wz ⟨rfl, hwz⟩; have hwz := hwz.symm; subst hwz) | (at_builtin; refine wpList_append_lies _ rfl _ _ 30 rfl B 5 i0 (.int .u8 0) 1 1 Try.underlying30 hi hz0 hz1 hz2 rfl (by decide) (.slice (some ⟨g, 0, none⟩) n cap) n (Lib.byteCells acc) rfl (hO.alloc _) ⟨wr.heap.size, 0, none⟩ 2 2 [.int .u8 92, .int .u8 110] rfl rfl (World.news_of_block (cs := #[.int .u8 92, .int .u8 110]) (t := 5) (fr := (0, 0)) (heap_alloc_new wr _)) (by simp [Value.oneCell']) (by omega) (by unfold maxLen; omega) (by omega) (by simp; omega) (wr.heap.size + 1) (by simp) ?_; intro g2 cap2 w2 hown2 hgrow2 hat2 hlt2; obtain ⟨hO2, hB2, hL2⟩ := app_many (xs := [92, 110]) hO hown2 hgrow2 hB hbl; clear hgrow2 hat2 hlt2 hown2))
        go_roundw
        case rel => exact ⟨k + 1, by omega, by go_num, acc ++ [92, 110], g2, n + 2, cap2, rfl, hO2, HM.out, by omega, hB2, hL2⟩
        case measure => simp [intOf]; omega
      by_cases x13 : x = 13
      · subst x13
        go_wp2_with (first | (go_at_call 27; refine (letter_cr _).mono ?_; rintro r wz ⟨rfl, hwz⟩; have hwz := hwz.symm; subst hwz) | (at_builtin; refine wpList_append_lies _ rfl _ _ 30 rfl B 5 i0 (.int .u8 0) 1 1 Try.underlying30 hi hz0 hz1 hz2 rfl (by decide) (.slice (some ⟨g, 0, none⟩) n cap) n (Lib.byteCells acc) rfl (hO.alloc _) ⟨wr.heap.size, 0, none⟩ 2 2 [.int .u8 92, .int .u8 114] rfl rfl (World.news_of_block (cs := #[.int .u8 92, .int .u8 114]) (t := 5) (fr := (0, 0)) (heap_alloc_new wr _)) (by simp [Value.oneCell']) (by omega) (by unfold maxLen; omega) (by omega) (by simp; omega) (wr.heap.size + 1) (by simp) ?_; intro g2 cap2 w2 hown2 hgrow2 hat2 hlt2; obtain ⟨hO2, hB2, hL2⟩ := app_many (xs := [92, 114]) hO hown2 hgrow2 hB hbl; clear hgrow2 hat2 hlt2 hown2))
        go_roundw
        case rel => exact ⟨k + 1, by omega, by go_num, acc ++ [92, 114], g2, n + 2, cap2, rfl, hO2, HM.out, by omega, hB2, hL2⟩
        case measure => simp [intOf]; omega
      have n10 := ne_byte (n := 10) x10 rfl
      have n13 := ne_byte (n := 13) x13 rfl
      rw [out1_plain (by simp [isBrk, x10, x13])] at HM
      clear x10 x13
      go_wp2_with (at_builtin; refine wpList_append_lies _ rfl _ _ 30 rfl B 5 i0 (.int .u8 0) 1 1 Try.underlying30 hi hz0 hz1 hz2 rfl (by decide) (.slice (some ⟨g, 0, none⟩) n cap) n (Lib.byteCells acc) rfl (hO.alloc _) ⟨wr.heap.size, 0, none⟩ 1 1 [.int .u8 (x.toNat : Int)] rfl rfl (World.news_of_block (cs := #[.int .u8 (x.toNat : Int)]) (t := 5) (fr := (0, 0)) (heap_alloc_new wr _)) (by simp [Value.oneCell']) (by omega) (by unfold maxLen; omega) (by omega) (by simp; omega) (wr.heap.size + 1) (by simp) ?_; intro g2 cap2 w2 hown2 hgrow2 hat2 hlt2; obtain ⟨hO2, hB2, hL2⟩ := app_many (xs := [x]) hO hown2 hgrow2 hB hbl; clear hgrow2 hat2 hlt2 hown2)
      go_roundw
      case rel => exact ⟨k + 1, by omega, by go_num, acc ++ [x], g2, n + 1, cap2, rfl, hO2, HM.out, by omega, hB2, hL2⟩
      case measure => simp [intOf]; omega
    · obtain rfl : k = s.size := by omega
      have HF : Hid (acc = shown s.data.toList) := by
        unfold Hid
        rw [HA.out, List.take_of_length_le (by simp only [Array.length_toList]; exact Nat.le_refl _)]
      have hst := run_str hO
      go_wp2
      go_ret
      exact ⟨by rw [← HF.out]; rfl, by rw [hBB]; exact hbl⟩

end Go.Proofs.Qxb6605290a
