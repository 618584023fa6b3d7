/-
  zzOddBackslashesBefore (26), zzBreakLetter (27), zzHasBreak (10), zzEscapeBreaksModel (9): contracts.
-/
import Derived.Test.Qxb6605290aEsc
import Derived.Deep.AppendLies
import Derived.Laws.BytesArg
namespace Go.Proofs.Qxb6605290a
open Go.RowKit

theorem Try.info5 : (Try.prog.info? 5).map (fun i => (i.zero, i.size, i.bytes)) = some (some (.int .u8 0), 1, 1) := by kernel_rfl

theorem ne_byte {x y : UInt8} {n : Int} (h : ¬ x = y) (hy : (y.toNat : Int) = n) : ((x.toNat : Int) == n) = false := by
  rw [beq_eq_false_iff_ne]
  exact fun e => h (UInt8.toNat_inj.1 (by omega))

theorem par_int (t : Nat) : ((t : Int) % 2 == 1) = (t % 2 == 1) := by
  rw [Bool.eq_iff_iff]; simp; omega

theorem odd_any (s : ByteArray) (i : Nat) (w : World) (hs : s.size ≤ 1048576) (hi : i ≤ s.size) :
    Calls Try.prog 26 #[.string s, .int .i64 i] w fun e w' => e = .returned (.bool (par (s.data.toList.take i))) ∧ w' = w := by
  go_enter Try.func26, Try.ntmps26
  go_wp2
  go_loop [5, 6] (fun n j => ∃ t m : Nat, m + t = i ∧ n = .int .i64 t ∧ j = .int .i64 ((m : Int) - 1) ∧ ∀ q, m ≤ q → q < m + t → s.data.toList[q]? = some 92) (fun n _ => i - (intOf n).toNat)
  case atStart => exact ⟨0, i, by omega, rfl, rfl, fun q h1 h2 => by omega⟩
  case round =>
    obtain ⟨t, m, hmt, rfl, rfl, hq⟩ := hrel
    have HQ : Hid (∀ q, m ≤ q → q < m + t → s.data.toList[q]? = some 92) := hq
    clear hq
    cases m with
    | zero =>
      have HP : Hid (par (s.data.toList.take i) = (t % 2 == 1)) := by
        unfold Hid
        rw [← hmt]
        exact par_of _ t 0 HQ.out (.inl rfl)
      have HM : Hid (0 + t = i) := hmt
      clear hmt
      go_wp2
      go_ret
      refine ⟨?_, rfl⟩
      rw [HP.out]
      exact congrArg (fun b => Ending.returned (.bool b)) (par_int t)
    | succ m =>
      rw [show (((m + 1 : Nat) : Int) - 1) = (m : Int) from by omega]
      have hm : m < s.size := by omega
      obtain ⟨x, hx⟩ : ∃ x : UInt8, s[m]'hm = x := ⟨_, rfl⟩
      have HX : Hid (s.data.toList[m]? = some x) := by unfold Hid; rw [← hx]; exact data_at s m hm
      have hm0 : (0 : Int) ≤ (m : Int) := by omega
      have hm1 : (m : Int) < (s.size : Int) := by omega
      have ht : t ≤ 1048576 := by omega
      have HM : Hid (m + 1 + t = i) := hmt
      have hti : t < i := by omega
      clear hmt
      by_cases h92 : x = 92
      · subst h92
        go_wp2
        go_round
        case rel =>
          refine ⟨t + 1, m, by have := HM.out; omega, by go_num, by go_num, fun q h1 h2 => ?_⟩
          by_cases e : q = m
          · subst e; exact HX.out
          · exact HQ.out q (by omega) (by omega)
        case measure => simp [intOf]; omega
      · have n92 := ne_byte (n := 92) h92 rfl
        have HP : Hid (par (s.data.toList.take i) = (t % 2 == 1)) := by
          unfold Hid
          rw [← HM.out]
          exact par_of _ t (m + 1) HQ.out (.inr ⟨x, by simpa using HX.out, h92⟩)
        clear h92
        go_wp2
        go_ret
        refine ⟨?_, rfl⟩
        rw [HP.out]
        exact congrArg (fun b => Ending.returned (.bool b)) (par_int t)

theorem letter_nl (w : World) : Calls Try.prog 27 #[.int .u8 10] w fun e w' => e = .returned (.int .u8 110) ∧ w' = w := by
  go_enter Try.func27, Try.ntmps27
  go_wp2
  go_ret
  exact ⟨rfl, rfl⟩

theorem letter_cr (w : World) : Calls Try.prog 27 #[.int .u8 13] w fun e w' => e = .returned (.int .u8 114) ∧ w' = w := by
  go_enter Try.func27, Try.ntmps27
  go_wp2
  go_ret
  exact ⟨rfl, rfl⟩

theorem has_any (s : ByteArray) (w : World) (hs : s.size ≤ 16777216) : Calls Try.prog 10 #[.string s] w fun e w' => e = .returned (.bool (hasBrk s.data.toList)) ∧ w' = w := by
  go_enter Try.func10, Try.ntmps10
  go_wp2
  go_loop [3] (fun i => ∃ k : Nat, k ≤ s.size ∧ i = .int .i64 k ∧ Clear s k) (fun i => s.size - (intOf i).toNat)
  case atStart => exact ⟨0, Nat.zero_le _, rfl, Clear.zero s⟩
  case round =>
    obtain ⟨k, hk, rfl, hcl⟩ := hrel
    have HC : Hid (Clear s k) := hcl
    clear hcl
    by_cases hlt : k < s.size
    · obtain ⟨x, hx⟩ : ∃ x : UInt8, s[k]'hlt = x := ⟨_, rfl⟩
      have HX : Hid (s[k]'hlt = x) := hx
      have hlt' : (k : Int) < (s.size : Int) := by omega
      by_cases x10 : x = 10
      · subst x10
        have HB : Hid (hasBrk s.data.toList = true) := hasBrk_of s k hlt (by rw [HX.out]; decide)
        go_wp2
        go_ret
        exact ⟨by rw [HB.out]; rfl, rfl⟩
      by_cases x13 : x = 13
      · subst x13
        have HB : Hid (hasBrk s.data.toList = true) := hasBrk_of s k hlt (by rw [HX.out]; decide)
        go_wp2
        go_ret
        exact ⟨by rw [HB.out]; rfl, rfl⟩
      have n10 := ne_byte (n := 10) x10 rfl
      have n13 := ne_byte (n := 13) x13 rfl
      have hnb : isBrk x = false := by simp [isBrk, x10, x13]
      have HN : Hid (isBrk x = false) := hnb
      clear x10 x13 hnb
      go_wp2
      go_round
      case rel =>
        refine ⟨k + 1, by omega, by go_num, fun j hj hjs => ?_⟩
        by_cases e : j = k
        · subst e; rw [HX.out]; exact HN.out
        · exact HC.out j (by omega) hjs
      case measure => simp [intOf]; omega
    · obtain rfl : k = s.size := by omega
      go_wp2
      go_ret
      exact ⟨by rw [hasBrk_none s HC.out]; rfl, rfl⟩

theorem getD_cells (l : List UInt8) (i : Nat) (h : i < l.length) : (Lib.byteCells l)[i]? = some (.int .u8 (l[i].toNat : Int)) := by
  simp [Lib.byteCells, h]

/-- string(out) of an owned row of bytes. -/
theorem run_str {w : World} {base g n cap : Nat} {l : List UInt8} (h : w.ownsRow base 5 1 (.slice (some ⟨g, 0, none⟩) n cap) n (Lib.byteCells l)) :
    (convert 30 9 (.slice (some ⟨g, 0, none⟩) n cap)).run Try.prog w = .ok (.string ⟨l.toArray⟩) w := by
  have hn : l.length = n := by have := h.1; rw [Lib.byteCells_length] at this; omega
  have := run_convert_bytes_arg (P := Try.prog) w 30 5 Try.underlying30 Try.underlying5 g 0 n cap (l.map fun b => (b.toNat : Int)) (by simpa using hn) (fun i hi => by
    have hi' : i < l.length := by omega
    rw [Nat.zero_add, h.cellAt i (by omega), getD_cells l i hi']
    simp [hi']) 9 Try.underlying9
  rw [this]
  have e : strOfNums (l.map fun b => (b.toNat : Int)) = ⟨l.toArray⟩ := by
    unfold strOfNums
    congr 2
    rw [List.map_map]
    have : ((fun n : Int => UInt8.ofNat n.toNat) ∘ fun b : UInt8 => (b.toNat : Int)) = id := by funext b; simp
    rw [this, List.map_id]
  rw [e]

theorem model_zero (s : ByteArray) (w : World) (hs : s.size = 0) :
    Calls Try.prog 9 #[.string s] w fun e w' => e = .returned (.string ⟨#[]⟩) ∧ Below w.heap.size w w' := by
  obtain ⟨i0, hi, hz0, hz1, hz2⟩ := info_parts Try.info5
  go_enter Try.func9, Try.ntmps9
  go_wp2_with (at_make; refine wpList_make_own _ rfl _ _ 30 rfl w.heap.size 5 i0 (.int .u8 0) 1 Try.underlying30 hi hz0 hz1 .i64 .i64 _ 0 rfl rfl (by omega) (by omega) (by unfold maxLen; omega) (Nat.le_refl _) ?_; intro w1 hown1 hgr1)
  refine wp_loop_rounds 1 ?_
  rw [rounds_succ]
  have hst := run_str (l := []) hown1
  go_wp2
  go_ret
  exact ⟨rfl, (Below.refl _ _).grown hgr1 (Nat.le_refl _) (fun k hk => by cases hk)⟩

/-- What one more byte does to an owned row. -/
theorem app_step {B : Nat} {w wr w1 : World} {g n cap g' cap' : Nat} {acc : List UInt8} {x : UInt8} {o : Obj} (h : wr.ownsRow B 5 1 (.slice (some ⟨g, 0, none⟩) n cap) n (Lib.byteCells acc))
    (h1 : w1.ownsRow B 5 1 (.slice (some ⟨g', 0, none⟩) (n + 1) cap') (n + 1) (Lib.byteCells acc ++ [.int .u8 (x.toNat : Int)])) (hg : (wr.alloc o).grownBy w1 (Value.slice (some ⟨g, 0, none⟩) n cap).ownBlock) (hB : B ≤ wr.heap.size) (hb : Below B w wr) :
    w1.ownsRow B 5 1 (.slice (some ⟨g', 0, none⟩) (n + 1) cap') (n + 1) (Lib.byteCells (acc ++ [x])) ∧ B ≤ w1.heap.size ∧ Below B w w1 := by
  have hs := hg.size
  refine ⟨by rw [Lib.byteCells_append]; exact h1, by simp at hs; omega, (hb.alloc hB o).grown hg (by simp; omega) (fun k hk => (h.lt k hk).1)⟩

/-- What holds of the model's loop at byte k. -/
def MRel (s : ByteArray) (e : Bool) (B : Nat) (w : World) (v : Value) (k : Nat) (wr : World) : Prop :=
  ∃ acc g n cap, v = .slice (some ⟨g, 0, none⟩) n cap ∧ wr.ownsRow B 5 1 (.slice (some ⟨g, 0, none⟩) n cap) n (Lib.byteCells acc) ∧ acc ++ mb e (par (s.data.toList.take k)) (s.data.toList.drop k) = mb e false s.data.toList ∧
    n ≤ 2 * k ∧ B ≤ wr.heap.size ∧ Below B w wr

set_option maxHeartbeats 2000000 in
set_option maxRecDepth 100000 in
theorem model_some (s : ByteArray) (e : Bool) (w : World) (hs : s.size ≤ 1048576) (hp : 0 < s.size) (he : (((s[0]'hp).toNat : Int) != 96) = e) :
    Calls Try.prog 9 #[.string s] w fun r w' => r = .returned (.string ⟨(mb e false s.data.toList).toArray⟩) ∧ Below w.heap.size w w' := by
  obtain ⟨i0, hi, hz0, hz1, hz2⟩ := info_parts Try.info5
  have hp' : decide ((0 : Int) < (s.size : Int)) = true := decide_eq_true (by omega)
  go_enter Try.func9, Try.ntmps9
  go_wp2_with (at_make; refine wpList_make_own _ rfl _ _ 30 rfl w.heap.size 5 i0 (.int .u8 0) 1 Try.underlying30 hi hz0 hz1 .i64 .i64 _ (2 * s.size) rfl rfl (by omega) (by rw [hz2]; omega) (by unfold maxLen; omega) (Nat.le_refl _) ?_; intro w1 hown1 hgr1)
  have hR0 : MRel s e w.heap.size w (.slice (some ⟨w.heap.size, 0, none⟩) 0 (2 * s.size)) 0 w1 := ⟨[], _, _, _, rfl, hown1, by simp [par], by omega, hgr1.size, (Below.refl _ _).grown hgr1 (Nat.le_refl _) (fun k hk => by cases hk)⟩
  clear hown1 hgr1
  go_loopw [4, 5] (fun v i wr => ∃ k : Nat, k ≤ s.size ∧ i = .int .i64 k ∧ MRel s e w.heap.size w v k wr) (fun _ i _ => s.size - (intOf i).toNat)
  case atStart => exact ⟨0, Nat.zero_le _, rfl, hR0⟩
  case round =>
    clear hR0
    obtain ⟨k, hk, rfl, acc, g, n, cap, rfl, hO, hacc, hn, hB, hbl⟩ := hrel
    have HA : Hid (acc ++ mb e (par (s.data.toList.take k)) (s.data.toList.drop k) = mb e false s.data.toList) := hacc
    clear hacc
    generalize hBB : w.heap.size = B at *
    by_cases hlt : k < s.size
    · obtain ⟨x, hx⟩ : ∃ x : UInt8, s[k]'hlt = x := ⟨_, rfl⟩
      have hX := data_at s k hlt
      rw [hx] at hX
      have HM : Hid (acc ++ ((if isBrk x then (if e && par (s.data.toList.take k) then [low x] else [92, low x]) else [x]) ++ mb e (par (s.data.toList.take (k + 1))) (s.data.toList.drop (k + 1))) = mb e false s.data.toList) := by
        unfold Hid; rw [← mb_step e _ k x hX]; exact HA.out
      clear HA hX
      have hlt' : (k : Int) < (s.size : Int) := by omega
      by_cases hb : isBrk x = true
      · rcases (show x = 10 ∨ x = 13 from by simpa [isBrk] using hb) with rfl | rfl
        · cases e with
          | false =>
            have HM2 : Hid (acc ++ [92] ++ [110] ++ mb false (par (s.data.toList.take (k + 1))) (s.data.toList.drop (k + 1)) = mb false false s.data.toList) := by
              unfold Hid; rw [← HM.out]; simp [isBrk, low]
            clear HM hb
            go_wp2_with (first | (go_at_call 27; refine (letter_nl _).mono ?_; rintro r wz ⟨rfl, hwz⟩; have hwz := hwz.symm; subst hwz) | (at_builtin; refine wpList_append_lies _ rfl (.tmp 45) (.tmp 46) 30 rfl B 5 i0 (.int .u8 0) 1 1 Try.underlying30 hi hz0 hz1 hz2 rfl (by decide) (.slice (some ⟨g, 0, none⟩) n cap) n (Lib.byteCells acc) rfl (hO.alloc _) ⟨wr.heap.size, 0, none⟩ 1 1 [.int .u8 92] rfl rfl (World.news_of_block (cs := #[.int .u8 92]) (t := 5) (fr := (0, 0)) (heap_alloc_new wr _)) (by simp [Value.oneCell']) (by omega) (by unfold maxLen; omega) (by omega) (by simp; omega) (wr.heap.size + 1) (by simp) ?_; intro g2 cap2 w2 hown2 hgrow2 hat2 hlt2; obtain ⟨hO2, hB2, hL2⟩ := app_step (x := 92) hO hown2 hgrow2 hB hbl; clear hgrow2 hat2 hlt2 hown2) | (at_builtin; refine wpList_append_lies _ rfl (.tmp 48) (.tmp 51) 30 rfl B 5 i0 (.int .u8 0) 1 1 Try.underlying30 hi hz0 hz1 hz2 rfl (by decide) (.slice (some ⟨g2, 0, none⟩) (n + 1) cap2) (n + 1) (Lib.byteCells (acc ++ [92])) rfl (hO2.alloc _) ⟨w2.heap.size, 0, none⟩ 1 1 [.int .u8 110] rfl rfl (World.news_of_block (cs := #[.int .u8 110]) (t := 5) (fr := (0, 0)) (heap_alloc_new w2 _)) (by simp [Value.oneCell']) (by omega) (by unfold maxLen; omega) (by omega) (by simp; omega) (w2.heap.size + 1) (by simp) ?_; intro g3 cap3 w3 hown3 hgrow3 hat3 hlt3; obtain ⟨hO3, hB3, hL3⟩ := app_step (x := 110) hO2 hown3 hgrow3 hB2 hL2; clear hgrow3 hat3 hlt3 hown3))
            go_roundw
            case rel => exact ⟨k + 1, by omega, by go_num, acc ++ [92] ++ [110], g3, n + 1 + 1, cap3, rfl, hO3, HM2.out, by omega, hB3, hL3⟩
            case measure => simp [intOf]; omega
          | true =>
            cases hpp : par (s.data.toList.take k) with
            | false =>
              have HM2 : Hid (acc ++ [92] ++ [110] ++ mb true (par (s.data.toList.take (k + 1))) (s.data.toList.drop (k + 1)) = mb true false s.data.toList) := by
                unfold Hid; rw [← HM.out, hpp]; simp [isBrk, low]
              clear HM hb
              go_wp2_with (first | (go_at_call 26; refine (odd_any s k _ hs (by omega)).mono ?_; rintro r wz ⟨rfl, hwz⟩; have hwz := hwz.symm; subst hwz; rw [hpp]) | (go_at_call 27; refine (letter_nl _).mono ?_; rintro r wz ⟨rfl, hwz⟩; have hwz := hwz.symm; subst hwz) | (at_builtin; refine wpList_append_lies _ rfl (.tmp 45) (.tmp 46) 30 rfl B 5 i0 (.int .u8 0) 1 1 Try.underlying30 hi hz0 hz1 hz2 rfl (by decide) (.slice (some ⟨g, 0, none⟩) n cap) n (Lib.byteCells acc) rfl (hO.alloc _) ⟨wr.heap.size, 0, none⟩ 1 1 [.int .u8 92] rfl rfl (World.news_of_block (cs := #[.int .u8 92]) (t := 5) (fr := (0, 0)) (heap_alloc_new wr _)) (by simp [Value.oneCell']) (by omega) (by unfold maxLen; omega) (by omega) (by simp; omega) (wr.heap.size + 1) (by simp) ?_; intro g2 cap2 w2 hown2 hgrow2 hat2 hlt2; obtain ⟨hO2, hB2, hL2⟩ := app_step (x := 92) hO hown2 hgrow2 hB hbl; clear hgrow2 hat2 hlt2 hown2) | (at_builtin; refine wpList_append_lies _ rfl (.tmp 48) (.tmp 51) 30 rfl B 5 i0 (.int .u8 0) 1 1 Try.underlying30 hi hz0 hz1 hz2 rfl (by decide) (.slice (some ⟨g2, 0, none⟩) (n + 1) cap2) (n + 1) (Lib.byteCells (acc ++ [92])) rfl (hO2.alloc _) ⟨w2.heap.size, 0, none⟩ 1 1 [.int .u8 110] rfl rfl (World.news_of_block (cs := #[.int .u8 110]) (t := 5) (fr := (0, 0)) (heap_alloc_new w2 _)) (by simp [Value.oneCell']) (by omega) (by unfold maxLen; omega) (by omega) (by simp; omega) (w2.heap.size + 1) (by simp) ?_; intro g3 cap3 w3 hown3 hgrow3 hat3 hlt3; obtain ⟨hO3, hB3, hL3⟩ := app_step (x := 110) hO2 hown3 hgrow3 hB2 hL2; clear hgrow3 hat3 hlt3 hown3))
              go_roundw
              case rel => exact ⟨k + 1, by omega, by go_num, acc ++ [92] ++ [110], g3, n + 1 + 1, cap3, rfl, hO3, HM2.out, by omega, hB3, hL3⟩
              case measure => simp [intOf]; omega
            | true =>
              have HM2 : Hid (acc ++ [110] ++ mb true (par (s.data.toList.take (k + 1))) (s.data.toList.drop (k + 1)) = mb true false s.data.toList) := by
                unfold Hid; rw [← HM.out, hpp]; simp [isBrk, low]
              clear HM hb
              go_wp2_with (first | (go_at_call 26; refine (odd_any s k _ hs (by omega)).mono ?_; rintro r wz ⟨rfl, hwz⟩; have hwz := hwz.symm; subst hwz; rw [hpp]) | (go_at_call 27; refine (letter_nl _).mono ?_; rintro r wz ⟨rfl, hwz⟩; have hwz := hwz.symm; subst hwz) | (at_builtin; refine wpList_append_lies _ rfl (.tmp 48) (.tmp 51) 30 rfl B 5 i0 (.int .u8 0) 1 1 Try.underlying30 hi hz0 hz1 hz2 rfl (by decide) (.slice (some ⟨g, 0, none⟩) n cap) n (Lib.byteCells acc) rfl (hO.alloc _) ⟨wr.heap.size, 0, none⟩ 1 1 [.int .u8 110] rfl rfl (World.news_of_block (cs := #[.int .u8 110]) (t := 5) (fr := (0, 0)) (heap_alloc_new wr _)) (by simp [Value.oneCell']) (by omega) (by unfold maxLen; omega) (by omega) (by simp; omega) (wr.heap.size + 1) (by simp) ?_; intro g3 cap3 w3 hown3 hgrow3 hat3 hlt3; obtain ⟨hO3, hB3, hL3⟩ := app_step (x := 110) hO hown3 hgrow3 hB hbl; clear hgrow3 hat3 hlt3 hown3))
              go_roundw
              case rel => exact ⟨k + 1, by omega, by go_num, acc ++ [110], g3, n + 1, cap3, rfl, hO3, HM2.out, by omega, hB3, hL3⟩
              case measure => simp [intOf]; omega
        · cases e with
          | false =>
            have HM2 : Hid (acc ++ [92] ++ [114] ++ mb false (par (s.data.toList.take (k + 1))) (s.data.toList.drop (k + 1)) = mb false false s.data.toList) := by
              unfold Hid; rw [← HM.out]; simp [isBrk, low]
            clear HM hb
            go_wp2_with (first | (go_at_call 27; refine (letter_cr _).mono ?_; rintro r wz ⟨rfl, hwz⟩; have hwz := hwz.symm; subst hwz) | (at_builtin; refine wpList_append_lies _ rfl (.tmp 45) (.tmp 46) 30 rfl B 5 i0 (.int .u8 0) 1 1 Try.underlying30 hi hz0 hz1 hz2 rfl (by decide) (.slice (some ⟨g, 0, none⟩) n cap) n (Lib.byteCells acc) rfl (hO.alloc _) ⟨wr.heap.size, 0, none⟩ 1 1 [.int .u8 92] rfl rfl (World.news_of_block (cs := #[.int .u8 92]) (t := 5) (fr := (0, 0)) (heap_alloc_new wr _)) (by simp [Value.oneCell']) (by omega) (by unfold maxLen; omega) (by omega) (by simp; omega) (wr.heap.size + 1) (by simp) ?_; intro g2 cap2 w2 hown2 hgrow2 hat2 hlt2; obtain ⟨hO2, hB2, hL2⟩ := app_step (x := 92) hO hown2 hgrow2 hB hbl; clear hgrow2 hat2 hlt2 hown2) | (at_builtin; refine wpList_append_lies _ rfl (.tmp 48) (.tmp 51) 30 rfl B 5 i0 (.int .u8 0) 1 1 Try.underlying30 hi hz0 hz1 hz2 rfl (by decide) (.slice (some ⟨g2, 0, none⟩) (n + 1) cap2) (n + 1) (Lib.byteCells (acc ++ [92])) rfl (hO2.alloc _) ⟨w2.heap.size, 0, none⟩ 1 1 [.int .u8 114] rfl rfl (World.news_of_block (cs := #[.int .u8 114]) (t := 5) (fr := (0, 0)) (heap_alloc_new w2 _)) (by simp [Value.oneCell']) (by omega) (by unfold maxLen; omega) (by omega) (by simp; omega) (w2.heap.size + 1) (by simp) ?_; intro g3 cap3 w3 hown3 hgrow3 hat3 hlt3; obtain ⟨hO3, hB3, hL3⟩ := app_step (x := 114) hO2 hown3 hgrow3 hB2 hL2; clear hgrow3 hat3 hlt3 hown3))
            go_roundw
            case rel => exact ⟨k + 1, by omega, by go_num, acc ++ [92] ++ [114], g3, n + 1 + 1, cap3, rfl, hO3, HM2.out, by omega, hB3, hL3⟩
            case measure => simp [intOf]; omega
          | true =>
            cases hpp : par (s.data.toList.take k) with
            | false =>
              have HM2 : Hid (acc ++ [92] ++ [114] ++ mb true (par (s.data.toList.take (k + 1))) (s.data.toList.drop (k + 1)) = mb true false s.data.toList) := by
                unfold Hid; rw [← HM.out, hpp]; simp [isBrk, low]
              clear HM hb
              go_wp2_with (first | (go_at_call 26; refine (odd_any s k _ hs (by omega)).mono ?_; rintro r wz ⟨rfl, hwz⟩; have hwz := hwz.symm; subst hwz; rw [hpp]) | (go_at_call 27; refine (letter_cr _).mono ?_; rintro r wz ⟨rfl, hwz⟩; have hwz := hwz.symm; subst hwz) | (at_builtin; refine wpList_append_lies _ rfl (.tmp 45) (.tmp 46) 30 rfl B 5 i0 (.int .u8 0) 1 1 Try.underlying30 hi hz0 hz1 hz2 rfl (by decide) (.slice (some ⟨g, 0, none⟩) n cap) n (Lib.byteCells acc) rfl (hO.alloc _) ⟨wr.heap.size, 0, none⟩ 1 1 [.int .u8 92] rfl rfl (World.news_of_block (cs := #[.int .u8 92]) (t := 5) (fr := (0, 0)) (heap_alloc_new wr _)) (by simp [Value.oneCell']) (by omega) (by unfold maxLen; omega) (by omega) (by simp; omega) (wr.heap.size + 1) (by simp) ?_; intro g2 cap2 w2 hown2 hgrow2 hat2 hlt2; obtain ⟨hO2, hB2, hL2⟩ := app_step (x := 92) hO hown2 hgrow2 hB hbl; clear hgrow2 hat2 hlt2 hown2) | (at_builtin; refine wpList_append_lies _ rfl (.tmp 48) (.tmp 51) 30 rfl B 5 i0 (.int .u8 0) 1 1 Try.underlying30 hi hz0 hz1 hz2 rfl (by decide) (.slice (some ⟨g2, 0, none⟩) (n + 1) cap2) (n + 1) (Lib.byteCells (acc ++ [92])) rfl (hO2.alloc _) ⟨w2.heap.size, 0, none⟩ 1 1 [.int .u8 114] rfl rfl (World.news_of_block (cs := #[.int .u8 114]) (t := 5) (fr := (0, 0)) (heap_alloc_new w2 _)) (by simp [Value.oneCell']) (by omega) (by unfold maxLen; omega) (by omega) (by simp; omega) (w2.heap.size + 1) (by simp) ?_; intro g3 cap3 w3 hown3 hgrow3 hat3 hlt3; obtain ⟨hO3, hB3, hL3⟩ := app_step (x := 114) hO2 hown3 hgrow3 hB2 hL2; clear hgrow3 hat3 hlt3 hown3))
              go_roundw
              case rel => exact ⟨k + 1, by omega, by go_num, acc ++ [92] ++ [114], g3, n + 1 + 1, cap3, rfl, hO3, HM2.out, by omega, hB3, hL3⟩
              case measure => simp [intOf]; omega
            | true =>
              have HM2 : Hid (acc ++ [114] ++ mb true (par (s.data.toList.take (k + 1))) (s.data.toList.drop (k + 1)) = mb true false s.data.toList) := by
                unfold Hid; rw [← HM.out, hpp]; simp [isBrk, low]
              clear HM hb
              go_wp2_with (first | (go_at_call 26; refine (odd_any s k _ hs (by omega)).mono ?_; rintro r wz ⟨rfl, hwz⟩; have hwz := hwz.symm; subst hwz; rw [hpp]) | (go_at_call 27; refine (letter_cr _).mono ?_; rintro r wz ⟨rfl, hwz⟩; have hwz := hwz.symm; subst hwz) | (at_builtin; refine wpList_append_lies _ rfl (.tmp 48) (.tmp 51) 30 rfl B 5 i0 (.int .u8 0) 1 1 Try.underlying30 hi hz0 hz1 hz2 rfl (by decide) (.slice (some ⟨g, 0, none⟩) n cap) n (Lib.byteCells acc) rfl (hO.alloc _) ⟨wr.heap.size, 0, none⟩ 1 1 [.int .u8 114] rfl rfl (World.news_of_block (cs := #[.int .u8 114]) (t := 5) (fr := (0, 0)) (heap_alloc_new wr _)) (by simp [Value.oneCell']) (by omega) (by unfold maxLen; omega) (by omega) (by simp; omega) (wr.heap.size + 1) (by simp) ?_; intro g3 cap3 w3 hown3 hgrow3 hat3 hlt3; obtain ⟨hO3, hB3, hL3⟩ := app_step (x := 114) hO hown3 hgrow3 hB hbl; clear hgrow3 hat3 hlt3 hown3))
              go_roundw
              case rel => exact ⟨k + 1, by omega, by go_num, acc ++ [114], g3, n + 1, cap3, rfl, hO3, HM2.out, by omega, hB3, hL3⟩
              case measure => simp [intOf]; omega
      · have hnb : isBrk x = false := by simpa using hb
        rw [hnb] at HM
        have x10 : ¬ x = 10 := by rintro rfl; revert hnb; decide
        have x13 : ¬ x = 13 := by rintro rfl; revert hnb; decide
        have n10 : ((x.toNat : Int) != 10) = true := by rw [bne, ne_byte (n := 10) x10 rfl]; rfl
        have n13 : ((x.toNat : Int) != 13) = true := by rw [bne, ne_byte (n := 13) x13 rfl]; rfl
        clear hb hnb x10 x13
        go_wp2_with (at_builtin; refine wpList_append_lies _ rfl _ _ 30 rfl B 5 i0 (.int .u8 0) 1 1 Try.underlying30 hi hz0 hz1 hz2 rfl (by decide) (.slice (some ⟨g, 0, none⟩) n cap) n (Lib.byteCells acc) rfl (hO.alloc _) ⟨wr.heap.size, 0, none⟩ 1 1 [.int .u8 (x.toNat : Int)] rfl rfl (World.news_of_block (cs := #[.int .u8 (x.toNat : Int)]) (t := 5) (fr := (0, 0)) (heap_alloc_new wr _)) (by simp [Value.oneCell']) (by omega) (by unfold maxLen; omega) (by omega) (by simp; omega) (wr.heap.size + 1) (by simp) ?_; intro g2 cap2 w2 hown2 hgrow2 hat2 hlt2; obtain ⟨hO2, hB2, hL2⟩ := app_step hO hown2 hgrow2 hB hbl; clear hgrow2 hat2 hlt2 hown2)
        go_roundw
        case rel => exact ⟨k + 1, by omega, by go_num, acc ++ [x], g2, n + 1, cap2, rfl, hO2, by rw [← HM.out]; simp, by omega, hB2, hL2⟩
        case measure => simp [intOf]; omega
    · obtain rfl : k = s.size := by omega
      have HF : Hid (acc = mb e false s.data.toList) := by
        unfold Hid
        rw [← HA.out, List.drop_eq_nil_of_le (by simp only [Array.length_toList]; exact Nat.le_refl _)]
        simp [mb]
      have hst := run_str hO
      go_wp2
      go_ret
      exact ⟨by rw [← HF.out]; rfl, by rw [hBB]; exact hbl⟩

end Go.Proofs.Qxb6605290a
