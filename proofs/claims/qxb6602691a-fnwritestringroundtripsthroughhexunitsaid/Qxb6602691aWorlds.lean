/-
  Worlds: what a call may have turned, said by a set of blocks. No Go text in sight.
-/
import Derived.WalkKit
import Derived.Deep.AppendLies
namespace Go.Proofs.Qxb6602691a
open Go.RowKit

/-- From w to w' only new blocks, and blocks in S, have turned. -/
structure Chg (S : Nat → Prop) (w w' : World) : Prop where
  os : w'.os = w.os
  tape : w'.tape = w.tape
  output : w'.output = w.output
  size : w.heap.size ≤ w'.heap.size
  block : ∀ k, k < w.heap.size → ¬ S k → w'.heap[k]? = w.heap[k]?

theorem Chg.refl (S : Nat → Prop) (w : World) : Chg S w w := ⟨rfl, rfl, rfl, Nat.le_refl _, fun _ _ _ => rfl⟩

theorem Chg.trans {S S' : Nat → Prop} {a b c : World} (h : Chg S a b) (k : Chg S' b c) (hs : ∀ i, i < a.heap.size → S' i → S i) : Chg S a c :=
  ⟨k.os.trans h.os, k.tape.trans h.tape, k.output.trans h.output, Nat.le_trans h.size k.size,
    fun i hi hn => (k.block i (Nat.lt_of_lt_of_le hi h.size) (fun hh => hn (hs i hi hh))).trans (h.block i hi hn)⟩

theorem Chg.mono {S S' : Nat → Prop} {a b : World} (h : Chg S a b) (hs : ∀ i, i < a.heap.size → S i → S' i) : Chg S' a b :=
  ⟨h.os, h.tape, h.output, h.size, fun i hi hn => h.block i hi (fun hh => hn (hs i hi hh))⟩

theorem Chg.drew {S : Nat → Prop} {a b : World} (h : Chg S a b) : Chg S a b.drew := ⟨h.os, h.tape, h.output, h.size, h.block⟩

theorem Chg.alloc {S : Nat → Prop} {a b : World} (h : Chg S a b) (o : Obj) : Chg S a (b.alloc o) :=
  h.trans (S' := fun _ => False) ⟨rfl, rfl, rfl, by simp, fun k hk _ => Below.heap_alloc _ _ _ hk⟩ (fun _ _ hf => hf.elim)

theorem Chg.setCell {S : Nat → Prop} {a b : World} (h : Chg S a b) {p : Addr} (hp : p.block < a.heap.size → S p.block) (u : Value) : Chg S a (b.setCell p u) :=
  h.trans (S' := fun k => k = p.block) ⟨rfl, rfl, rfl, by simp [World.setCell], fun k _ hk => Below.heap_setCell _ _ _ _ hk⟩ (fun i hi e => by subst e; exact hp hi)

theorem Chg.of_grown {w w' : World} {row : Option Nat} (h : w.grownBy w' row) : Chg (fun k => row = some k) w w' :=
  ⟨h.os, h.tape, h.output, h.size, fun k hk hn => h.block k hk (fun e => hn e.symm)⟩

theorem Chg.below {S : Nat → Prop} {w w' : World} (h : Chg S w w') {B : Nat} (hB : B ≤ w.heap.size) (hs : ∀ k, k < B → ¬ S k) : Below B w w' :=
  ⟨h.os, h.tape, h.output, h.size, fun k hk => h.block k (Nat.lt_of_lt_of_le hk hB) (hs k hk)⟩

theorem Chg.of_below {w w' : World} (h : Below w.heap.size w w') : Chg (fun _ => False) w w' := ⟨h.os, h.tape, h.output, h.size, fun k hk _ => h.block k hk⟩

theorem Chg.cell {S : Nat → Prop} {w w' : World} (h : Chg S w w') {p : Addr} (hp : p.block < w.heap.size) (hs : ¬ S p.block) : w'.cell? p = w.cell? p := World.cell?_of_block (w := w) (h.block p.block hp hs)

theorem Chg.row {S : Nat → Prop} {w w' : World} (h : Chg S w w') {base : Nat} {e : TypeId} {size : Nat} {v : Value} {n : Nat} {xs : List Value} (ho : w.ownsRow base e size v n xs) (hs : ∀ k, v.ownBlock = some k → ¬ S k) : w'.ownsRow base e size v n xs := by
  refine ⟨ho.1, ?_⟩
  rcases ho.2 with hn | ⟨g, cap, cur, rfl, hb, hgg, rest⟩
  · exact .inl hn
  · refine .inr ⟨g, cap, cur, rfl, hb, ?_, rest⟩
    rw [h.block g (Array.getElem?_eq_some_iff.1 hgg).1 (hs g rfl)]
    exact hgg

/-- A lower base serves too. -/
theorem ownsRow_base {w : World} {base base' : Nat} {e : TypeId} {size : Nat} {v : Value} {n : Nat} {xs : List Value} (ho : w.ownsRow base e size v n xs) (hb : base' ≤ base) : w.ownsRow base' e size v n xs := by
  refine ⟨ho.1, ?_⟩
  rcases ho.2 with hn | ⟨g, cap, cur, rfl, hb', rest⟩
  · exact .inl hn
  · exact .inr ⟨g, cap, cur, rfl, Nat.le_trans hb hb', rest⟩

theorem ownsRow_drew {w : World} {base : Nat} {e : TypeId} {size : Nat} {v : Value} {n : Nat} {xs : List Value} (ho : w.ownsRow base e size v n xs) : w.drew.ownsRow base e size v n xs := ho

/-- The bytes as values. -/
def bys (xs : List Int) : List Value := xs.map (Value.int .u8)

theorem bys_append (xs ys : List Int) : bys (xs ++ ys) = bys xs ++ bys ys := by simp [bys]

/-- A slice of bytes that can be read: nil and empty; or its 'len' first cells are the bytes xs. -/
structure RowAt (w : World) (a : Option Addr) (len : Nat) (xs : List Int) : Prop where
  size : xs.length = len
  by8 : ∀ n ∈ xs, 0 ≤ n ∧ n ≤ 255
  empty : a = none → len = 0
  cell : ∀ x, a = some x → ∀ i, i < len → w.cell? (x.add i) = some (.int .u8 (xs.getD i 0))

theorem RowAt.kept {S : Nat → Prop} {w w' : World} {a : Option Addr} {len : Nat} {xs : List Int} (h : RowAt w a len xs) (hc : Chg S w w') (hs : ∀ x, a = some x → ¬ S x.block) : RowAt w' a len xs := by
  refine ⟨h.size, h.by8, h.empty, fun x hx i hi => ?_⟩
  have h0 := h.cell x hx i hi
  have hb : (x.add i).block = x.block := by unfold Addr.add; split <;> rfl
  rw [hc.cell (by exact World.block_lt_of_cell? w _ h0) (by rw [hb]; exact hs x hx)]
  exact h0

/-- Where there is an element its place is a plain one. -/
theorem RowAt.plain {w : World} {x : Addr} {len : Nat} {xs : List Int} (h : RowAt w (some x) len xs) (h0 : 0 < len) :
    ∃ b off, x = ⟨b, off, none⟩ ∧ b < w.heap.size ∧ ∀ i, i < len → w.cell? ⟨b, off + i, none⟩ = some (.int .u8 (xs.getD i 0)) := by
  have h1 := h.cell x rfl 0 h0
  have hsp : x.spot = none := by simpa [Addr.add] using World.cell?_spot h1
  obtain ⟨b, off, sp⟩ := x
  simp only at hsp
  subst hsp
  exact ⟨b, off, rfl, by simpa [Addr.add] using World.block_lt_of_cell? w _ h1, fun i hi => by rw [← Addr.add_lit]; exact h.cell _ rfl i hi⟩

theorem getD_bys (xs : List Int) (i : Nat) (h : i < xs.length) : (bys xs)[i]? = some (.int .u8 (xs.getD i 0)) := by
  simp [bys, h]

theorem RowAt.of_owns {w : World} {base : Nat} {a : Option Addr} {n cap : Nat} {xs : List Int} (h : w.ownsRow base 5 1 (.slice a n cap) n (bys xs)) (h8 : ∀ n ∈ xs, 0 ≤ n ∧ n ≤ 255) : RowAt w a n xs := by
  have hl : xs.length = n := by simpa [bys] using h.1
  refine ⟨hl, h8, ?_, ?_⟩
  · intro ha
    subst ha
    rcases h.2 with ⟨_, h0⟩ | ⟨g, cap', cur, hv, _⟩
    · exact h0
    · cases hv
  · intro x hx i hi
    subst hx
    rcases h.2 with ⟨hv, _⟩ | ⟨g, cap', cur, hv, _⟩
    · cases hv
    · have hx : x = ⟨g, 0, none⟩ := by simpa using (Value.slice.inj hv).1
      subst hx
      exact h.cells (g := g) rfl i _ (getD_bys xs i (by omega))

end Go.Proofs.Qxb6602691a
