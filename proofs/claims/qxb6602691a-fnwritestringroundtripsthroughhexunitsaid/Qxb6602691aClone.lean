/-
  cloneBytes (7): contracts.
-/
import Derived.Test.Qxb6602691aRows
import Derived.Test.Qxb6602691aWorlds
import Derived.WalkSpells
import Derived.Lib.SliceRun
namespace Go.Proofs.Qxb6602691a
open Go.RowKit

theorem Try.info5 : (Try.prog.info? 5).map (fun i => (i.zero, i.size, i.bytes)) = some (some (.int .u8 0), 1, 1) := by kernel_rfl

set_option maxHeartbeats 400000 in
theorem clone_nil (w : World) : Calls Try.prog 7 #[.slice none 0 0] w fun e w' => e = .returned (.slice none 0 0) ∧ w' = w := by
  have hn := fun (w : World) (a : Option Addr) (n c n' c' : Nat) => Lib.run_eql_slice_nil (P := Try.prog) w 22 5 a n c n' c' Try.underlying22
  go_enter Try.func7, Try.ntmps7
  go_wp2
  go_ret
  exact ⟨rfl, rfl⟩

/-- What stands in the new row behind k rounds. -/
def half (xs : List Int) (k : Nat) : List Int := xs.take k ++ List.replicate (xs.length - k) 0

theorem half_zero (xs : List Int) : bys (half xs 0) = (madeCells #[.int .u8 0] xs.length).toList := by
  rw [toList_madeCells_one]; simp [half, bys]

theorem half_len (xs : List Int) (k : Nat) (hk : k ≤ xs.length) : (half xs k).length = xs.length := by
  simp [half]; omega

theorem half_all (xs : List Int) : half xs xs.length = xs := by simp [half]

theorem half_succ (xs : List Int) (k : Nat) (hk : k < xs.length) : (bys (half xs k)).set k (.int .u8 (xs.getD k 0)) = bys (half xs (k + 1)) := by
  have e1 : min k xs.length = k := by omega
  have e2 : min (k + 1) xs.length = k + 1 := by omega
  unfold bys
  apply List.ext_getElem?
  intro j
  simp only [half, List.getElem?_set, List.getElem?_map, List.getElem?_append, List.length_map, List.length_append, List.length_take, List.length_replicate, List.getElem?_take, List.getElem?_replicate, e1, e2]
  by_cases hj : k = j
  · subst hj
    have h3 : k < k + (xs.length - k) := by omega
    simp [hk, h3]
  · by_cases h1 : j < k
    · have h2 : j < k + 1 := by omega
      simp [hj, h1, h2]
    · have h2 : ¬ j < k + 1 := by omega
      simp only [hj, h1, h2, if_false]
      by_cases h3 : j < xs.length
      · rw [if_pos (by omega), if_pos (by omega)]
      · rw [if_neg (by omega), if_neg (by omega)]

set_option maxHeartbeats 400000 in
theorem clone_some (x : Addr) (len cap : Nat) (xs : List Int) (w : World) (hl : len ≤ 1048576) (hx : RowAt w (some x) len xs) :
    Calls Try.prog 7 #[.slice (some x) len cap] w fun e w' => e = .returned (.slice (some ⟨w.heap.size, 0, none⟩) len len) ∧
      w'.ownsRow w.heap.size 5 1 (.slice (some ⟨w.heap.size, 0, none⟩) len len) len (bys xs) ∧ Chg (fun _ => False) w w' := by
  have hn := fun (w : World) (a : Option Addr) (n c n' c' : Nat) => Lib.run_eql_slice_nil (P := Try.prog) w 22 5 a n c n' c' Try.underlying22
  obtain ⟨i0, hi, hz0, hz1, hz2⟩ := info_parts Try.info5
  have hxl := hx.size
  go_enter Try.func7, Try.ntmps7
  go_wp2_with (at_make; refine wpList_make_full _ rfl _ _ 22 rfl w.heap.size 5 i0 (.int .u8 0) 1 Try.underlying22 hi hz0 hz1 .i64 .i64 _ _ len rfl rfl rfl rfl (by rw [hz2]; omega) (by unfold maxLen; omega) (Nat.le_refl _) ?_; intro w1 hown1 hgr1)
  go_loopw [4] (fun i wr => ∃ k : Nat, k ≤ len ∧ i = .int .i64 k ∧ wr.ownsRow w.heap.size 5 1 (.slice (some ⟨w.heap.size, 0, none⟩) len len) len (bys (half xs k)) ∧ Chg (fun _ => False) w wr) (fun i _ => len - (intOf i).toNat)
  case atStart =>
    refine ⟨0, Nat.zero_le _, rfl, ?_, (Chg.of_grown hgr1).mono (by simp)⟩
    rw [half_zero, hxl]; simpa [Value.cells] using hown1
  case round =>
    obtain ⟨k, hk, rfl, hown, hch⟩ := hrel
    by_cases hlt : k < len
    · obtain ⟨b, off, rfl, hbl, hsrc⟩ := hx.plain (by omega)
      have hc : wr.cell? ⟨b, off + k, none⟩ = some (.int .u8 (xs.getD k 0)) := (hch.cell (p := ⟨b, off + k, none⟩) hbl (fun h => h)).trans (hsrc k hlt)
      have hd : wr.cell? ⟨w.heap.size, k, none⟩ = (bys (half xs k))[k]? := hown.cellAt k (by omega)
      rw [getD_bys _ _ (by rw [half_len _ _ (by omega)]; omega)] at hd
      have hf := hown.frozenAt k
      obtain ⟨hown', _⟩ := hown.stored k (.int .u8 (xs.getD k 0))
      rw [half_succ xs k (by omega)] at hown'
      have hch' : Chg (fun _ => False) w (wr.setCell ⟨w.heap.size, k, none⟩ (.int .u8 (xs.getD k 0))) := hch.setCell (fun h => absurd h (by simp)) _
      clear hown hgr1 hown1 hch hsrc hx
      generalize xs.getD k 0 = c at *
      go_wp2
      go_roundw
      case rel => exact ⟨k + 1, by omega, by go_num, hown', hch'⟩
      case measure => simp [intOf]; omega
    · obtain rfl : k = len := by omega
      go_wp2
      go_ret
      refine ⟨rfl, ?_, hch⟩
      rw [← hxl, half_all] at hown
      simpa [hxl] using hown

theorem clone_any (a : Option Addr) (len cap : Nat) (xs : List Int) (w : World) (hl : len ≤ 1048576) (hx : RowAt w a len xs) (hcap : a = none → cap = 0) :
    Calls Try.prog 7 #[.slice a len cap] w fun e w' => ∃ ga cp, e = .returned (.slice ga len cp) ∧ w'.ownsRow w.heap.size 5 1 (.slice ga len cp) len (bys xs) ∧ Chg (fun _ => False) w w' := by
  cases a with
  | none =>
    obtain rfl := hcap rfl
    obtain rfl := hx.empty rfl
    refine (clone_nil w).mono ?_
    rintro e w' ⟨rfl, rfl⟩
    obtain rfl : xs = [] := List.eq_nil_of_length_eq_zero hx.size
    exact ⟨none, 0, rfl, World.ownsRow_nil _ _ _ _, Chg.refl _ _⟩
  | some x =>
    refine (clone_some x len cap xs w hl hx).mono ?_
    rintro e w' ⟨rfl, h1, h2⟩
    exact ⟨_, _, rfl, h1, h2⟩

end Go.Proofs.Qxb6602691a
