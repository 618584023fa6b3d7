/-
  strings.IndexByte (17) and what it calls (20, 22): contracts; the constant strings of writeString.
-/
import Derived.Test.Qxb6602691aPlain
import Derived.Test.Qxb6602691aClone
import Derived.Lib.Bytealg
namespace Go.Proofs.Qxb6602691a
open Go.RowKit

set_option maxRecDepth 100000 in
theorem lite_any (s : ByteArray) (c : Int) (w : World) :
    Calls Try.prog 20 #[.string s, .int .u8 c] w fun e w' => e = .returned (.int .i64 (Lib.indexByte s.data.toList c.toNat.toUInt8)) ∧ w' = w := by
  go_enter Try.func20, Try.ntmps20
  go_wp2
  rw [run_callFunc_extern Try.func22 (by kernel_rfl) (by kernel_rfl) (by kernel_rfl) (e := Extern.BytealgIndexByte.indexByte) (by kernel_rfl), Lib.run_indexByteString]
  simp only [Result.andThen]
  rw [Oper.upon_value]
  go_wp2
  go_ret
  exact ⟨rfl, rfl⟩

theorem indexByte_any (s : ByteArray) (c : Int) (w : World) :
    Calls Try.prog 17 #[.string s, .int .u8 c] w fun e w' => e = .returned (.int .i64 (Lib.indexByte s.data.toList c.toNat.toUInt8)) ∧ w' = w := by
  go_enter Try.func17, Try.ntmps17
  go_wp2_with (go_at_call 20; refine (lite_any _ _ _).mono ?_; rintro e w' ⟨rfl, rfl⟩)
  go_ret
  exact ⟨rfl, rfl⟩

/-- The place of a byte among the escaped ones. -/
theorem index_esc (c i : Int) (w : World) (h : Lib.indexByte [34, 92, 8, 12, 10, 13, 9] c.toNat.toUInt8 = i) :
    Calls Try.prog 17 #[.string ⟨#[34, 92, 8, 12, 10, 13, 9]⟩, .int .u8 c] w fun e w' => e = .returned (.int .i64 i) ∧ w' = w := by
  subst h
  exact indexByte_any _ c w

theorem index_none (c : Int) (h0 : 0 ≤ c) (h1 : c < 32) (n8 : ¬ c = 8) (n9 : ¬ c = 9) (n10 : ¬ c = 10) (n12 : ¬ c = 12) (n13 : ¬ c = 13) : Lib.indexByte [34, 92, 8, 12, 10, 13, 9] c.toNat.toUInt8 = -1 := by
  obtain ⟨m, rfl⟩ := Int.eq_ofNat_of_zero_le h0
  have hm : m < 32 := by omega
  have key : ∀ k : Fin 32, k.val ≠ 8 → k.val ≠ 9 → k.val ≠ 10 → k.val ≠ 12 → k.val ≠ 13 → Lib.indexByte [34, 92, 8, 12, 10, 13, 9] k.val.toUInt8 = -1 := by decide
  have := key ⟨m, hm⟩ (by simp; omega) (by simp; omega) (by simp; omega) (by simp; omega) (by simp; omega)
  simpa using this

/-- "0123456789abcdef" at a digit's place. -/
theorem hex_at (d : Int) (h0 : 0 ≤ d) (h1 : d ≤ 15) (h : d.toNat < (⟨#[48, 49, 50, 51, 52, 53, 54, 55, 56, 57, 97, 98, 99, 100, 101, 102]⟩ : ByteArray).size) :
    (((⟨#[48, 49, 50, 51, 52, 53, 54, 55, 56, 57, 97, 98, 99, 100, 101, 102]⟩ : ByteArray)[d.toNat]'h).toNat : Int) = hx d := by
  have : d = 0 ∨ d = 1 ∨ d = 2 ∨ d = 3 ∨ d = 4 ∨ d = 5 ∨ d = 6 ∨ d = 7 ∨ d = 8 ∨ d = 9 ∨ d = 10 ∨ d = 11 ∨ d = 12 ∨ d = 13 ∨ d = 14 ∨ d = 15 := by omega
  rcases this with rfl | rfl | rfl | rfl | rfl | rfl | rfl | rfl | rfl | rfl | rfl | rfl | rfl | rfl | rfl | rfl <;> rfl

/-- A byte with a short escape: its place, its letter. -/
theorem esc_letter (b : Int) (h : b = 34 ∨ b = 92 ∨ b = 8 ∨ b = 9 ∨ b = 10 ∨ b = 12 ∨ b = 13) : ∃ i L : Int, 0 ≤ i ∧ i ≤ 6 ∧ Lib.indexByte [34, 92, 8, 12, 10, 13, 9] b.toNat.toUInt8 = i ∧
    (∀ h, (((⟨#[47, 34, 92, 98, 102, 110, 114, 116]⟩ : ByteArray)[(i + 1).toNat]'h).toNat : Int) = L) ∧ esc b = [92, L] := by
  rcases h with rfl | rfl | rfl | rfl | rfl | rfl | rfl
  · exact ⟨0, 34, by decide, by decide, by decide, fun _ => rfl, by decide⟩
  · exact ⟨1, 92, by decide, by decide, by decide, fun _ => rfl, by decide⟩
  · exact ⟨2, 98, by decide, by decide, by decide, fun _ => rfl, by decide⟩
  · exact ⟨6, 116, by decide, by decide, by decide, fun _ => rfl, by decide⟩
  · exact ⟨4, 110, by decide, by decide, by decide, fun _ => rfl, by decide⟩
  · exact ⟨3, 102, by decide, by decide, by decide, fun _ => rfl, by decide⟩
  · exact ⟨5, 114, by decide, by decide, by decide, fun _ => rfl, by decide⟩

theorem esc_control (b : Int) (h32 : b < 32) (n8 : ¬ b = 8) (n9 : ¬ b = 9) (n10 : ¬ b = 10) (n12 : ¬ b = 12) (n13 : ¬ b = 13) : esc b = [92, 117, 48, 48, hx (b / 16), hx (b % 16)] := by
  unfold esc
  rw [if_neg (by omega), if_neg (by omega), if_neg n8, if_neg n9, if_neg n10, if_neg n12, if_neg n13, if_pos h32]

end Go.Proofs.Qxb6602691a
