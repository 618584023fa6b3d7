/-
  appendEscapedByte (8), hexDigitOf (14): contracts.
-/
import Derived.Test.Qxb6602691aPlain
import Derived.Test.Qxb6602691aClone
namespace Go.Proofs.Qxb6602691a
open Go.RowKit

theorem hexOf_any (d : Int) (h0 : 0 ≤ d) (h1 : d ≤ 15) (w : World) : Calls Try.prog 14 #[.int .u8 d, .bool false] w fun e w' => e = .returned (.int .u8 (hx d)) ∧ w' = w := by
  by_cases h : d < 10
  · have e : hx d = 48 + d := by unfold hx; rw [if_pos h]
    rw [e]; clear e
    go_enter Try.func14, Try.ntmps14
    go_wp2
    go_ret
    exact ⟨rfl, rfl⟩
  · have e : hx d = 97 + d - 10 := by unfold hx; rw [if_neg h]; omega
    rw [e]; clear e
    go_enter Try.func14, Try.ntmps14
    go_wp2
    go_ret
    exact ⟨rfl, rfl⟩

theorem far {v : Value} {g m : Nat} (h : v.ownBlock = some g ∨ g = m + 1) : v.ownBlock = some g ∨ m ≤ g := by
  rcases h with h | h
  · exact .inl h
  · exact .inr (by omega)

/-- What an append onto an owned row of bytes leaves. -/
def Appended (base : Nat) (v : Value) (n : Nat) (xs news : List Int) (w : World) (e : Ending) (w' : World) : Prop :=
  ∃ g cap, e = .returned (.slice (some ⟨g, 0, none⟩) (n + news.length) cap) ∧ w'.ownsRow base 5 1 (.slice (some ⟨g, 0, none⟩) (n + news.length) cap) (n + news.length) (bys (xs ++ news)) ∧
    Chg (fun k => v.ownBlock = some k) w w' ∧ (v.ownBlock = some g ∨ w.heap.size ≤ g)


set_option maxHeartbeats 400000 in
theorem app_e34 (base : Nat) (v : Value) (n : Nat) (xs : List Int) (w : World) (hn : n ≤ 16777216) (hb : base ≤ w.heap.size) (hown : w.ownsRow base 5 1 v n (bys xs)) :
    Calls Try.prog 8 #[v, .int .u8 34] w (Appended base v n xs [92, 34] w) := by
  obtain ⟨i0, hi, hz0, hz1, hz2⟩ := info_parts Try.info5
  go_enter Try.func8, Try.ntmps8
  go_wp2_with (at_builtin; refine wpList_append_lies _ rfl _ _ 22 rfl base 5 i0 (.int .u8 0) 1 1 Try.underlying22 hi hz0 hz1 hz2 rfl (by decide) v n (bys xs) rfl (hown.alloc _) ⟨w.heap.size, 0, none⟩ 2 2 [.int .u8 92, .int .u8 34] rfl rfl (World.news_of_block (cs := #[.int .u8 92, .int .u8 34]) (t := 5) (fr := (0, 0)) (heap_alloc_new w _)) (by simp [Value.oneCell']) (by omega) (by unfold maxLen; omega) (by omega) (by simp; omega) (w.heap.size + 1) (by simp) ?_; intro g cap w1 hown1 hgrow hat hlt)
  go_ret
  refine ⟨g, cap, rfl, by rw [bys_append]; exact hown1, ((Chg.refl _ w).alloc _).trans (Chg.of_grown hgrow) (fun _ _ h => h), far hat⟩

set_option maxHeartbeats 400000 in
theorem app_e92 (base : Nat) (v : Value) (n : Nat) (xs : List Int) (w : World) (hn : n ≤ 16777216) (hb : base ≤ w.heap.size) (hown : w.ownsRow base 5 1 v n (bys xs)) :
    Calls Try.prog 8 #[v, .int .u8 92] w (Appended base v n xs [92, 92] w) := by
  obtain ⟨i0, hi, hz0, hz1, hz2⟩ := info_parts Try.info5
  go_enter Try.func8, Try.ntmps8
  go_wp2_with (at_builtin; refine wpList_append_lies _ rfl _ _ 22 rfl base 5 i0 (.int .u8 0) 1 1 Try.underlying22 hi hz0 hz1 hz2 rfl (by decide) v n (bys xs) rfl (hown.alloc _) ⟨w.heap.size, 0, none⟩ 2 2 [.int .u8 92, .int .u8 92] rfl rfl (World.news_of_block (cs := #[.int .u8 92, .int .u8 92]) (t := 5) (fr := (0, 0)) (heap_alloc_new w _)) (by simp [Value.oneCell']) (by omega) (by unfold maxLen; omega) (by omega) (by simp; omega) (w.heap.size + 1) (by simp) ?_; intro g cap w1 hown1 hgrow hat hlt)
  go_ret
  refine ⟨g, cap, rfl, by rw [bys_append]; exact hown1, ((Chg.refl _ w).alloc _).trans (Chg.of_grown hgrow) (fun _ _ h => h), far hat⟩

set_option maxHeartbeats 400000 in
theorem app_e8 (base : Nat) (v : Value) (n : Nat) (xs : List Int) (w : World) (hn : n ≤ 16777216) (hb : base ≤ w.heap.size) (hown : w.ownsRow base 5 1 v n (bys xs)) :
    Calls Try.prog 8 #[v, .int .u8 8] w (Appended base v n xs [92, 98] w) := by
  obtain ⟨i0, hi, hz0, hz1, hz2⟩ := info_parts Try.info5
  go_enter Try.func8, Try.ntmps8
  go_wp2_with (at_builtin; refine wpList_append_lies _ rfl _ _ 22 rfl base 5 i0 (.int .u8 0) 1 1 Try.underlying22 hi hz0 hz1 hz2 rfl (by decide) v n (bys xs) rfl (hown.alloc _) ⟨w.heap.size, 0, none⟩ 2 2 [.int .u8 92, .int .u8 98] rfl rfl (World.news_of_block (cs := #[.int .u8 92, .int .u8 98]) (t := 5) (fr := (0, 0)) (heap_alloc_new w _)) (by simp [Value.oneCell']) (by omega) (by unfold maxLen; omega) (by omega) (by simp; omega) (w.heap.size + 1) (by simp) ?_; intro g cap w1 hown1 hgrow hat hlt)
  go_ret
  refine ⟨g, cap, rfl, by rw [bys_append]; exact hown1, ((Chg.refl _ w).alloc _).trans (Chg.of_grown hgrow) (fun _ _ h => h), far hat⟩

set_option maxHeartbeats 400000 in
theorem app_e9 (base : Nat) (v : Value) (n : Nat) (xs : List Int) (w : World) (hn : n ≤ 16777216) (hb : base ≤ w.heap.size) (hown : w.ownsRow base 5 1 v n (bys xs)) :
    Calls Try.prog 8 #[v, .int .u8 9] w (Appended base v n xs [92, 116] w) := by
  obtain ⟨i0, hi, hz0, hz1, hz2⟩ := info_parts Try.info5
  go_enter Try.func8, Try.ntmps8
  go_wp2_with (at_builtin; refine wpList_append_lies _ rfl _ _ 22 rfl base 5 i0 (.int .u8 0) 1 1 Try.underlying22 hi hz0 hz1 hz2 rfl (by decide) v n (bys xs) rfl (hown.alloc _) ⟨w.heap.size, 0, none⟩ 2 2 [.int .u8 92, .int .u8 116] rfl rfl (World.news_of_block (cs := #[.int .u8 92, .int .u8 116]) (t := 5) (fr := (0, 0)) (heap_alloc_new w _)) (by simp [Value.oneCell']) (by omega) (by unfold maxLen; omega) (by omega) (by simp; omega) (w.heap.size + 1) (by simp) ?_; intro g cap w1 hown1 hgrow hat hlt)
  go_ret
  refine ⟨g, cap, rfl, by rw [bys_append]; exact hown1, ((Chg.refl _ w).alloc _).trans (Chg.of_grown hgrow) (fun _ _ h => h), far hat⟩

set_option maxHeartbeats 400000 in
theorem app_e10 (base : Nat) (v : Value) (n : Nat) (xs : List Int) (w : World) (hn : n ≤ 16777216) (hb : base ≤ w.heap.size) (hown : w.ownsRow base 5 1 v n (bys xs)) :
    Calls Try.prog 8 #[v, .int .u8 10] w (Appended base v n xs [92, 110] w) := by
  obtain ⟨i0, hi, hz0, hz1, hz2⟩ := info_parts Try.info5
  go_enter Try.func8, Try.ntmps8
  go_wp2_with (at_builtin; refine wpList_append_lies _ rfl _ _ 22 rfl base 5 i0 (.int .u8 0) 1 1 Try.underlying22 hi hz0 hz1 hz2 rfl (by decide) v n (bys xs) rfl (hown.alloc _) ⟨w.heap.size, 0, none⟩ 2 2 [.int .u8 92, .int .u8 110] rfl rfl (World.news_of_block (cs := #[.int .u8 92, .int .u8 110]) (t := 5) (fr := (0, 0)) (heap_alloc_new w _)) (by simp [Value.oneCell']) (by omega) (by unfold maxLen; omega) (by omega) (by simp; omega) (w.heap.size + 1) (by simp) ?_; intro g cap w1 hown1 hgrow hat hlt)
  go_ret
  refine ⟨g, cap, rfl, by rw [bys_append]; exact hown1, ((Chg.refl _ w).alloc _).trans (Chg.of_grown hgrow) (fun _ _ h => h), far hat⟩

set_option maxHeartbeats 400000 in
theorem app_e12 (base : Nat) (v : Value) (n : Nat) (xs : List Int) (w : World) (hn : n ≤ 16777216) (hb : base ≤ w.heap.size) (hown : w.ownsRow base 5 1 v n (bys xs)) :
    Calls Try.prog 8 #[v, .int .u8 12] w (Appended base v n xs [92, 102] w) := by
  obtain ⟨i0, hi, hz0, hz1, hz2⟩ := info_parts Try.info5
  go_enter Try.func8, Try.ntmps8
  go_wp2_with (at_builtin; refine wpList_append_lies _ rfl _ _ 22 rfl base 5 i0 (.int .u8 0) 1 1 Try.underlying22 hi hz0 hz1 hz2 rfl (by decide) v n (bys xs) rfl (hown.alloc _) ⟨w.heap.size, 0, none⟩ 2 2 [.int .u8 92, .int .u8 102] rfl rfl (World.news_of_block (cs := #[.int .u8 92, .int .u8 102]) (t := 5) (fr := (0, 0)) (heap_alloc_new w _)) (by simp [Value.oneCell']) (by omega) (by unfold maxLen; omega) (by omega) (by simp; omega) (w.heap.size + 1) (by simp) ?_; intro g cap w1 hown1 hgrow hat hlt)
  go_ret
  refine ⟨g, cap, rfl, by rw [bys_append]; exact hown1, ((Chg.refl _ w).alloc _).trans (Chg.of_grown hgrow) (fun _ _ h => h), far hat⟩

set_option maxHeartbeats 400000 in
theorem app_e13 (base : Nat) (v : Value) (n : Nat) (xs : List Int) (w : World) (hn : n ≤ 16777216) (hb : base ≤ w.heap.size) (hown : w.ownsRow base 5 1 v n (bys xs)) :
    Calls Try.prog 8 #[v, .int .u8 13] w (Appended base v n xs [92, 114] w) := by
  obtain ⟨i0, hi, hz0, hz1, hz2⟩ := info_parts Try.info5
  go_enter Try.func8, Try.ntmps8
  go_wp2_with (at_builtin; refine wpList_append_lies _ rfl _ _ 22 rfl base 5 i0 (.int .u8 0) 1 1 Try.underlying22 hi hz0 hz1 hz2 rfl (by decide) v n (bys xs) rfl (hown.alloc _) ⟨w.heap.size, 0, none⟩ 2 2 [.int .u8 92, .int .u8 114] rfl rfl (World.news_of_block (cs := #[.int .u8 92, .int .u8 114]) (t := 5) (fr := (0, 0)) (heap_alloc_new w _)) (by simp [Value.oneCell']) (by omega) (by unfold maxLen; omega) (by omega) (by simp; omega) (w.heap.size + 1) (by simp) ?_; intro g cap w1 hown1 hgrow hat hlt)
  go_ret
  refine ⟨g, cap, rfl, by rw [bys_append]; exact hown1, ((Chg.refl _ w).alloc _).trans (Chg.of_grown hgrow) (fun _ _ h => h), far hat⟩

set_option maxHeartbeats 400000 in
theorem app_plain (base : Nat) (v : Value) (n : Nat) (xs : List Int) (b : Int) (w : World) (h32 : 32 ≤ b) (n34 : (b == 34) = false) (n92 : (b == 92) = false) (hn : n ≤ 16777216) (hb : base ≤ w.heap.size) (hown : w.ownsRow base 5 1 v n (bys xs)) :
    Calls Try.prog 8 #[v, .int .u8 b] w (Appended base v n xs [b] w) := by
  obtain ⟨i0, hi, hz0, hz1, hz2⟩ := info_parts Try.info5
  go_enter Try.func8, Try.ntmps8
  go_wp2_with (at_builtin; refine wpList_append_lies _ rfl _ _ 22 rfl base 5 i0 (.int .u8 0) 1 1 Try.underlying22 hi hz0 hz1 hz2 rfl (by decide) v n (bys xs) rfl (hown.alloc _) ⟨w.heap.size, 0, none⟩ 1 1 [.int .u8 b] rfl rfl (World.news_of_block (cs := #[.int .u8 b]) (t := 5) (fr := (0, 0)) (heap_alloc_new w _)) (by simp [Value.oneCell']) (by omega) (by unfold maxLen; omega) (by omega) (by simp; omega) (w.heap.size + 1) (by simp) ?_; intro g cap w1 hown1 hgrow hat hlt)
  go_ret
  refine ⟨g, cap, rfl, by rw [bys_append]; exact hown1, ((Chg.refl _ w).alloc _).trans (Chg.of_grown hgrow) (fun _ _ h => h), far hat⟩

set_option maxHeartbeats 400000 in
theorem app_ctl (base : Nat) (v : Value) (n : Nat) (xs : List Int) (b : Int) (w : World) (h0 : 0 ≤ b) (h32 : b < 32) (n8 : (b == 8) = false) (n9 : (b == 9) = false) (n10 : (b == 10) = false) (n12 : (b == 12) = false) (n13 : (b == 13) = false)
    (hn : n ≤ 16777216) (hb : base ≤ w.heap.size) (hown : w.ownsRow base 5 1 v n (bys xs)) :
    Calls Try.prog 8 #[v, .int .u8 b] w (Appended base v n xs [92, 117, 48, 48, hx (b / 16), hx (b % 16)] w) := by
  obtain ⟨i0, hi, hz0, hz1, hz2⟩ := info_parts Try.info5
  go_enter Try.func8, Try.ntmps8
  have h15 := u8_and15 (x := b) h0 (by omega)
  go_wp2_with fail
  refine (hexOf_any (b / 16) (by omega) (by omega) _).mono ?_
  rintro e w' ⟨rfl, rfl⟩
  go_wp2_with fail
  refine (hexOf_any (b % 16) (by omega) (by omega) _).mono ?_
  rintro e w' ⟨rfl, rfl⟩
  go_wp2_with (at_builtin; refine wpList_append_lies _ rfl _ _ 22 rfl base 5 i0 (.int .u8 0) 1 1 Try.underlying22 hi hz0 hz1 hz2 rfl (by decide) v n (bys xs) rfl (hown.alloc _) ⟨w'.heap.size, 0, none⟩ 6 6 [.int .u8 92, .int .u8 117, .int .u8 48, .int .u8 48, .int .u8 (hx (b / 16)), .int .u8 (hx (b % 16))] rfl rfl (World.news_of_block (cs := #[.int .u8 92, .int .u8 117, .int .u8 48, .int .u8 48, .int .u8 (hx (b / 16)), .int .u8 (hx (b % 16))]) (t := 5) (fr := (0, 0)) (heap_alloc_new w' _)) (by simp [Value.oneCell']) (by omega) (by unfold maxLen; omega) (by omega) (by simp; omega) (w'.heap.size + 1) (by simp) ?_; intro g cap w1 hown1 hgrow hat hlt)
  go_ret
  refine ⟨g, cap, rfl, by rw [bys_append]; exact hown1, ((Chg.refl _ w').alloc _).trans (Chg.of_grown hgrow) (fun _ _ h => h), far hat⟩

/-- appendEscapedByte writes one byte by the table. -/
theorem app_any (base : Nat) (v : Value) (n : Nat) (xs : List Int) (b : Int) (w : World) (h0 : 0 ≤ b) (hn : n ≤ 16777216) (hb : base ≤ w.heap.size) (hown : w.ownsRow base 5 1 v n (bys xs)) :
    Calls Try.prog 8 #[v, .int .u8 b] w (Appended base v n xs (esc b) w) := by
  unfold esc
  by_cases e34 : b = 34
  · subst e34; exact app_e34 base v n xs w hn hb hown
  rw [if_neg e34]
  by_cases e92 : b = 92
  · subst e92; exact app_e92 base v n xs w hn hb hown
  rw [if_neg e92]
  by_cases e8 : b = 8
  · subst e8; exact app_e8 base v n xs w hn hb hown
  rw [if_neg e8]
  by_cases e9 : b = 9
  · subst e9; exact app_e9 base v n xs w hn hb hown
  rw [if_neg e9]
  by_cases e10 : b = 10
  · subst e10; exact app_e10 base v n xs w hn hb hown
  rw [if_neg e10]
  by_cases e12 : b = 12
  · subst e12; exact app_e12 base v n xs w hn hb hown
  rw [if_neg e12]
  by_cases e13 : b = 13
  · subst e13; exact app_e13 base v n xs w hn hb hown
  rw [if_neg e13]
  by_cases h32 : b < 32
  · rw [if_pos h32]
    exact app_ctl base v n xs b w h0 h32 (by simpa using e8) (by simpa using e9) (by simpa using e10) (by simpa using e12) (by simpa using e13) hn hb hown
  · rw [if_neg h32]
    exact app_plain base v n xs b w (by omega) (by simpa using e34) (by simpa using e92) hn hb hown

end Go.Proofs.Qxb6602691a
