/-
  Small laws on worlds, over no program: a slice's row of one-cell elements ('VRow'), carried along 'Below'; a row that the call made.
-/
import Derived.WalkKit
import Derived.Deep.OwnRows
import Derived.Deep.Draws
namespace Zz
open Go Go.RowKit

/-- A slice at address a of n one-cell elements holds the values V. -/
def VRow (w : World) (a : Option Addr) (n : Nat) (V : Nat → Value) : Prop :=
  n = 0 ∨ ∃ b off, a = some ⟨b, off, none⟩ ∧ b < w.heap.size ∧ ∀ i, i < n → w.cell? ⟨b, off + i, none⟩ = some (V i)

theorem VRow.below {w w' : World} {a : Option Addr} {n : Nat} {V : Nat → Value} (h : VRow w a n V) (hb : Below w.heap.size w w') : VRow w' a n V := by
  rcases h with h | ⟨b, off, h1, h2, h3⟩
  · exact .inl h
  · exact .inr ⟨b, off, h1, by have := hb.size; omega, fun i hi => (hb.cell (p := ⟨b, off + i, none⟩) h2).trans (h3 i hi)⟩

theorem VRow.cell {w : World} {a : Option Addr} {n : Nat} {V : Nat → Value} (h : VRow w a n V) {k : Nat} (hk : k < n) :
    ∃ b off, a = some ⟨b, off, none⟩ ∧ b < w.heap.size ∧ ∀ i, i < n → w.cell? ⟨b, off + i, none⟩ = some (V i) := by
  rcases h with h | h
  · omega
  · exact h

/-- A row that is owned whole, by its cells. -/
theorem row_of_own {w : World} {base e size n g : Nat} {xs : List Value} (h : w.ownsRow base e size (.slice (some ⟨g, 0, none⟩) n n) n xs) : w.rowIs g e (n * size) (fun j => xs.getD j (.int .i64 0)) := by
  obtain ⟨hl, h | ⟨g', cap, cur, h, _, hg, _, _, hs, ht⟩⟩ := h
  · simp at h
  · simp only [Value.slice.injEq, Option.some.injEq, Addr.mk.injEq, and_true, true_and] at h
    obtain ⟨rfl, rfl⟩ := h
    refine ⟨cur, hg, hs, fun i hi => ?_⟩
    have hx : cur.toList = xs := by rw [← ht, List.take_of_length_le (by simp [hs])]
    have hi' : i < xs.length := by omega
    rw [← Array.getElem?_toList, hx]
    simp [hi']

theorem below_of_grown {w w' : World} (h : w.grownBy w' none) : Below w.heap.size w w' := ⟨h.os, h.tape, h.output, h.size, fun k hk => h.block k hk (by simp)⟩
theorem grown_of_below {w w' : World} (h : Below w.heap.size w w') : w.grownBy w' none := ⟨h.os, h.tape, h.output, h.size, fun k hk _ => h.block k hk⟩

/-- What is owned stays owned where nothing old has turned. -/
theorem own_below {w w' : World} {base e size n : Nat} {v : Value} {xs : List Value} (h : w.ownsRow base e size v n xs) (hb : Below w.heap.size w w') : w'.ownsRow base e size v n xs := by
  refine h.kept (grown_of_below hb) ?_
  cases hv : v.ownBlock with
  | none => exact .inl rfl
  | some k => exact .inr (by simp)

theorem vrow_of_row {w : World} {g t n : Nat} {f : Nat → Value} (h : w.rowIs g t n f) : VRow w (some ⟨g, 0, none⟩) n f :=
  .inr ⟨g, 0, rfl, h.lt, fun i hi => by rw [Nat.zero_add]; exact h.cell hi⟩

/-- What a copy leaves: a slice of n elements, the values V, nothing old turned. (A name, so that the walk does not look inside.) -/
def RetV (w : World) (n : Nat) (V : Nat → Value) (e : Ending) (w' : World) : Prop := ∃ a' c', e = .returned (.slice a' n c') ∧ (a' = none → n = 0) ∧ VRow w' a' n V ∧ Below w.heap.size w w'
theorem set_same {w : World} {a : Addr} {v u : Value} (h : w.cell? a = some u) : (w.setCell a v).cell? a = some v := World.cell?_setCell_same _ _ _ h
theorem set_other {w : World} {a b : Addr} {v : Value} (h : a ≠ b) : (w.setCell a v).cell? b = w.cell? b := World.cell?_setCell_other _ _ _ _ h

theorem hide {p : Prop} (h : p) : Hid p := h

/-- Of the blocks that were there, those in S alone may have turned. -/
structure BlkKept (S : Nat → Prop) (w w' : World) : Prop where
  os : w'.os = w.os
  tape : w'.tape = w.tape
  output : w'.output = w.output
  size : w.heap.size ≤ w'.heap.size
  block : ∀ k, k < w.heap.size → ¬ S k → w'.heap[k]? = w.heap[k]?

theorem BlkKept.refl (S : Nat → Prop) (w : World) : BlkKept S w w := ⟨rfl, rfl, rfl, Nat.le_refl _, fun _ _ _ => rfl⟩
theorem BlkKept.trans {S : Nat → Prop} {a b c : World} (h : BlkKept S a b) (k : BlkKept S b c) : BlkKept S a c :=
  ⟨k.os.trans h.os, k.tape.trans h.tape, k.output.trans h.output, Nat.le_trans h.size k.size, fun i hi hs => (k.block i (Nat.lt_of_lt_of_le hi h.size) hs).trans (h.block i hi hs)⟩
theorem BlkKept.drewN {S : Nat → Prop} {a b : World} (h : BlkKept S a b) (n : Nat) : BlkKept S a (b.drewN n) := ⟨h.os, h.tape, h.output, h.size, h.block⟩
theorem BlkKept.drew {S : Nat → Prop} {a b : World} (h : BlkKept S a b) : BlkKept S a b.drew := ⟨h.os, h.tape, h.output, h.size, h.block⟩
theorem BlkKept.alloc {S : Nat → Prop} {a b : World} (h : BlkKept S a b) (o : Obj) : BlkKept S a (b.alloc o) :=
  h.trans ⟨rfl, rfl, rfl, by simp, fun k hk _ => Below.heap_alloc _ _ _ hk⟩
theorem BlkKept.setCell {S : Nat → Prop} {a b : World} (h : BlkKept S a b) {p : Addr} (hp : S p.block ∨ a.heap.size ≤ p.block) (u : Value) : BlkKept S a (b.setCell p u) := by
  refine ⟨h.os, h.tape, h.output, by simpa [World.setCell] using h.size, fun k hk hs => ?_⟩
  rw [Below.heap_setCell _ _ _ _ (by rintro rfl; rcases hp with hp | hp; exact hs hp; omega)]
  exact h.block k hk hs
theorem BlkKept.grown {S : Nat → Prop} {a b c : World} {row : Option Nat} (h : BlkKept S a b) (hg : b.grownBy c row) (hr : ∀ k, row = some k → S k ∨ a.heap.size ≤ k) : BlkKept S a c := by
  refine ⟨hg.os.trans h.os, hg.tape.trans h.tape, hg.output.trans h.output, Nat.le_trans h.size hg.size, fun k hk hs => ?_⟩
  rw [hg.block k (Nat.lt_of_lt_of_le hk h.size) (fun e => by rcases hr k e.symm with h1 | h1; exact hs h1; omega)]
  exact h.block k hk hs
theorem BlkKept.below {S : Nat → Prop} {a b : World} (h : BlkKept S a b) {B : Nat} (hS : ∀ k, S k → B ≤ k) (hB : B ≤ a.heap.size) : Below B a b :=
  ⟨h.os, h.tape, h.output, h.size, fun k hk => h.block k (by omega) (fun s => by have := hS k s; omega)⟩
theorem BlkKept.of_below {S : Nat → Prop} {a b : World} (h : Below a.heap.size a b) : BlkKept S a b := ⟨h.os, h.tape, h.output, h.size, fun k hk _ => h.block k hk⟩

theorem row_setRow {w : World} {g t n : Nat} {c : Array Value} (h : w.heap[g]? = some (.cells c t (0, 0))) (cs : Array Value) (hn : cs.size = n) (f : Nat → Value) (hf : ∀ i, i < n → cs[i]? = some (f i)) : (w.setRow g cs).rowIs g t n f :=
  ⟨cs, setRow_heap w g c cs t _ h, hn, hf⟩

theorem grown_setRow (w : World) (g : Nat) (cs : Array Value) : w.grownBy (w.setRow g cs) (some g) :=
  ⟨rfl, rfl, rfl, by simp [World.setRow], fun k _ hk => setRow_other w g k cs (fun e => hk (by simp [e]))⟩
end Zz
