/-
  at (18), isDigit (21), hexDigit (19), hexUnit (16), ZZHexUnit (12): contracts.
-/
import Derived.Test.Qxb6602691aWrite
import Derived.Deep.QuietTactic
import Derived.BigQuiet
namespace Go.Proofs.Qxb6602691a
open Go.RowKit

/-- The byte t places behind pos, where it is there. -/
theorem at_any (p g N cap : Nat) (pos t c : Int) (f v u : Value) (w : World) (hbx : w.heap[p]? = some (box (.slice (some ⟨g, 0, none⟩) N cap) (.int .i64 pos) f v u))
    (h0 : 0 ≤ pos) (ht : 0 ≤ t) (hlt : pos + t < N) (hN : N ≤ 16777216) (hc : w.cell? ⟨g, (pos + t).toNat, none⟩ = some (.int .u8 c)) :
    Calls Try.prog 18 #[.pointer (some ⟨p, 0, none⟩), .int .i64 t] w fun e w' => e = .returned (.int .u8 c) ∧ Chg (fun _ => False) w w' := by
  have c0 : w.cell? ⟨p, 0, none⟩ = some (.slice (some ⟨g, 0, none⟩) N cap) := by rw [cell_of_row w p 0 _ 36 (0, 0) hbx]; rfl
  have c1 : w.cell? ⟨p, 1, none⟩ = some (.int .i64 pos) := by rw [cell_of_row w p 1 _ 36 (0, 0) hbx]; rfl
  have hp0 : 0 ≤ pos + t := by omega
  go_enter Try.func18, Try.ntmps18
  go_wp2
  go_quiet (fail)
  go_wp2
  go_quiet (fail)
  go_wp2
  go_ret
  exact ⟨rfl, ⟨rfl, rfl, rfl, Nat.le_refl _, fun _ _ _ => rfl⟩⟩

/-- hexDigit at a lower-case digit. -/
theorem digit_any (d : Int) (h0 : 0 ≤ d) (h1 : d ≤ 15) (w : World) : Calls Try.prog 19 #[.int .u8 (hx d)] w fun e w' => e = .returned (.int .i64 d) ∧ w' = w := by
  by_cases h : d < 10
  · have e : hx d = 48 + d := by unfold hx; rw [if_pos h]
    rw [e]; clear e
    have h2 : (48 : Int) ≤ 48 + d := by omega
    have h3 : 48 + d ≤ (57 : Int) := by omega
    go_enter Try.func19, Try.ntmps19
    go_wp2
    go_ret
    exact ⟨by simp; omega, rfl⟩
  · have e : hx d = 87 + d := by unfold hx; rw [if_neg h]
    rw [e]; clear e
    have h2 : (97 : Int) ≤ 87 + d := by omega
    have h3 : 87 + d ≤ (102 : Int) := by omega
    go_enter Try.func19, Try.ntmps19
    go_wp2
    go_ret
    exact ⟨by simp; omega, rfl⟩

/-- The number that the first k digits make. -/
def acc (d : Nat → Int) : Nat → Int
  | 0 => 0
  | k + 1 => acc d k * 16 + d k

theorem acc_range (d : Nat → Int) (hd : ∀ k, 0 ≤ d k ∧ d k ≤ 15) (k : Nat) (hk : k ≤ 3) : 0 ≤ acc d k ∧ acc d k ≤ 4095 := by
  have h0 := hd 0
  have h1 := hd 1
  have h2 := hd 2
  rcases (show k = 0 ∨ k = 1 ∨ k = 2 ∨ k = 3 from by omega) with rfl | rfl | rfl | rfl <;> simp only [acc] <;> omega

theorem or_join (r v : Int) (h0 : 0 ≤ r) (h1 : r ≤ 4095) (h2 : 0 ≤ v) (h3 : v ≤ 15) : bits .or .i32 (r * 16) v = r * 16 + v := by
  exact bits_join .i32 31 (by decide) wraps_i32 4 (r * 16) v (by omega) (by omega) (by omega) h2 (by omega) (by omega)

theorem hx_two (d : Int) (h0 : 0 ≤ d) (h1 : d ≤ 15) : (48 ≤ hx d ∧ hx d ≤ 57) ∨ (97 ≤ hx d ∧ hx d ≤ 102) := by
  unfold hx; split <;> omega

set_option maxHeartbeats 400000 in
/-- hexUnit at four lower-case digits. -/
theorem unit_any (p g N cap : Nat) (pos : Int) (d : Nat → Int) (hd : ∀ k, 0 ≤ d k ∧ d k ≤ 15) (f v u : Value) (w : World) (hbx : w.heap[p]? = some (box (.slice (some ⟨g, 0, none⟩) N cap) (.int .i64 pos) f v u))
    (h0 : 0 ≤ pos) (hlt : pos + 4 ≤ N) (hN : N ≤ 16777216) (hg : g < w.heap.size) (hc : ∀ k : Nat, k < 4 → w.cell? ⟨g, (pos + k).toNat, none⟩ = some (.int .u8 (hx (d k)))) :
    Calls Try.prog 16 #[.pointer (some ⟨p, 0, none⟩), .int .i64 0] w fun e w' => e = .returned (.int .i32 (acc d 4)) ∧ Chg (fun _ => False) w w' := by
  go_enter Try.func16, Try.ntmps16
  go_wp2
  go_loopw [5, 9] (fun r i wr => ∃ k : Nat, k ≤ 4 ∧ i = .int .i64 k ∧ r = .int .i32 (acc d k) ∧ Chg (fun _ => False) w wr) (fun _ i _ => 4 - (intOf i).toNat)
  case atStart => exact ⟨0, Nat.zero_le _, rfl, rfl, Chg.refl _ _⟩
  case round =>
    obtain ⟨k, hk, rfl, rfl, hch⟩ := hrel
    by_cases hk4 : k < 4
    · have hbr : wr.heap[p]? = some (box (.slice (some ⟨g, 0, none⟩) N cap) (.int .i64 pos) f v u) := by rw [hch.block p (box_lt hbx) (fun h => h)]; exact hbx
      have hcr : wr.cell? ⟨g, (pos + k).toNat, none⟩ = some (.int .u8 (hx (d k))) := (hch.cell (p := ⟨g, (pos + k).toNat, none⟩) hg (fun h => h)).trans (hc k hk4)
      have hr := acc_range d hd k (by omega)
      obtain ⟨hd0, hd1⟩ := hd k
      have hor := or_join (acc d k) (d k) hr.1 hr.2 hd0 hd1
      have HA : Hid (acc d (k + 1) = acc d k * 16 + d k) := rfl
      have hk4' : (k : Int) < 4 := by omega
      obtain ⟨hr0, hr1⟩ := hr
      have hx2 := hx_two (d k) hd0 hd1
      have HD := digit_any (d k) hd0 hd1
      have HA2 := at_any p g N cap pos k (hx (d k)) f v u wr hbr h0 (by omega) (by omega) hN hcr
      clear hc hd hbx hbr hcr hg
      generalize acc d k = r at *
      generalize hh : hx (d k) = c at *
      generalize d k = q at *
      clear hh
      rcases hx2 with ⟨ha, hb⟩ | ⟨ha, hb⟩
      all_goals
        go_wp2_with fail
        refine HA2.mono ?_
        rintro e w1 ⟨rfl, hch1⟩
        have hch2 : Chg (fun _ => False) w w1 := hch.trans hch1 (fun _ _ h => h)
        clear hch1 hch
        go_wp2_with fail
        refine (HD _).mono ?_
        rintro e w2 ⟨rfl, rfl⟩
        go_wp2
        go_roundw
        case rel => exact ⟨k + 1, by omega, by go_num, by rw [HA.out], hch2⟩
        case measure => simp [intOf]; omega
    · obtain rfl : k = 4 := by omega
      go_wp2
      go_ret
      exact ⟨rfl, hch⟩

/-- ZZHexUnit at four lower-case digits. -/
theorem zzunit_any (g N cap : Nat) (pos : Int) (d : Nat → Int) (hd : ∀ k, 0 ≤ d k ∧ d k ≤ 15) (w : World) (h0 : 0 ≤ pos) (hlt : pos + 4 ≤ N) (hN : N ≤ 16777216) (hg : g < w.heap.size)
    (hc : ∀ k : Nat, k < 4 → w.cell? ⟨g, (pos + k).toNat, none⟩ = some (.int .u8 (hx (d k)))) :
    Calls Try.prog 12 #[.slice (some ⟨g, 0, none⟩) N cap, .int .i64 pos, .int .i64 0] w fun e w' => e = .returned (.int .i32 (acc d 4)) ∧ Chg (fun _ => False) w w' := by
  have hbx : (w.alloc (.cells #[.slice (some ⟨g, 0, none⟩) N cap, .int .i64 pos, .bool false, .slice none 0 0, .slice none 0 0] 36)).heap[w.heap.size]? = some (box (.slice (some ⟨g, 0, none⟩) N cap) (.int .i64 pos) (.bool false) (.slice none 0 0) (.slice none 0 0)) := heap_alloc_new w _
  have hc0 : Chg (fun _ => False) w (w.alloc (.cells #[.slice (some ⟨g, 0, none⟩) N cap, .int .i64 pos, .bool false, .slice none 0 0, .slice none 0 0] 36)) := (Chg.refl _ w).alloc _
  have HC : Hid (∀ k : Nat, k < 4 → w.cell? ⟨g, (pos + k).toNat, none⟩ = some (.int .u8 (hx (d k)))) := hc
  clear hc
  go_enter Try.func12, Try.ntmps12
  go_wp2_with fail
  refine (unit_any w.heap.size g N cap pos d hd (.bool false) (.slice none 0 0) (.slice none 0 0) _ hbx h0 hlt hN (by simp; omega) (fun k hk => (hc0.cell (p := ⟨g, (pos + k).toNat, none⟩) hg (fun h => h)).trans (HC.out k hk))).mono ?_
  rintro e w1 ⟨rfl, hc1⟩
  go_wp2
  go_ret
  exact ⟨rfl, hc0.trans hc1 (fun _ _ h => h)⟩

end Go.Proofs.Qxb6602691a
