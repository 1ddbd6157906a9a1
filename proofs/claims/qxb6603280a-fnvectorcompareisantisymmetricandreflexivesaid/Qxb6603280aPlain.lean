/-
  THE PLAIN LAW of seat b6603280a: 'Vector.Compare' as a function on lists of entries (an id's bytes, a count), with no Go in sight: swapping the two vectors swaps 'behind' and 'ahead'; a vector against itself: neither.
-/
import Derived.Lib.Bytealg
namespace Vec
open Go

structure Ent where
  s : ByteArray
  c : Int

def cmp (a b : Ent) : Int := Lib.compareBytes a.s.data.toList b.s.data.toList

theorem compareBytes_swap : ∀ a b : List UInt8, Lib.compareBytes b a = - Lib.compareBytes a b := by
  intro a
  induction a with
  | nil => intro b; cases b <;> simp [Lib.compareBytes]
  | cons x xs ih =>
    intro b
    cases b with
    | nil => simp [Lib.compareBytes]
    | cons y ys =>
      simp only [Lib.compareBytes]
      by_cases h1 : x < y
      · have h2 : ¬ y < x := UInt8.lt_asymm h1
        simp [h1, h2]
      · by_cases h2 : y < x
        · simp [h1, h2]
        · simp [h1, h2, ih]

theorem compareBytes_self (a : List UInt8) : Lib.compareBytes a a = 0 := by
  have := compareBytes_swap a a
  omega

theorem cmp_swap (a b : Ent) : cmp b a = - cmp a b := compareBytes_swap _ _
theorem cmp_self (a : Ent) : cmp a a = 0 := compareBytes_self _

/-- The merge: (behind, ahead). 'f': fuel. -/
def merge : Nat → List Ent → List Ent → Bool → Bool → Bool × Bool
  | 0, _, _, b, a => (b, a)
  | _ + 1, [], [], b, a => (b, a)
  | f + 1, [], _ :: ws, _, a => merge f [] ws true a
  | f + 1, _ :: vs, [], b, _ => merge f vs [] b true
  | f + 1, v :: vs, w :: ws, b, a =>
    if cmp v w < 0 then merge f vs (w :: ws) b true
    else if 0 < cmp v w then merge f (v :: vs) ws true a
    else merge f vs ws (b || decide (v.c < w.c)) (a || decide (w.c < v.c))

theorem merge_swap : ∀ (f : Nat) (v w : List Ent) (b a : Bool), merge f w v a b = ((merge f v w b a).2, (merge f v w b a).1) := by
  intro f
  induction f with
  | zero => intro v w b a; rfl
  | succ f ih =>
    intro v w b a
    cases v with
    | nil =>
      cases w with
      | nil => rfl
      | cons w ws => simp only [merge]; exact ih _ _ _ _
    | cons v vs =>
      cases w with
      | nil => simp only [merge]; exact ih _ _ _ _
      | cons w ws =>
        simp only [merge]
        rw [cmp_swap v w]
        by_cases h1 : cmp v w < 0
        · rw [if_neg (by omega), if_pos (by omega), if_pos h1]
          exact ih _ _ _ _
        · by_cases h2 : 0 < cmp v w
          · rw [if_pos (by omega), if_neg h1, if_pos h2]
            exact ih _ _ _ _
          · rw [if_neg (by omega), if_neg (by omega), if_neg h1, if_neg h2]
            exact ih _ _ _ _

theorem merge_self : ∀ (f : Nat) (v : List Ent), merge f v v false false = (false, false) := by
  intro f
  induction f with
  | zero => intro v; rfl
  | succ f ih =>
    intro v
    cases v with
    | nil => rfl
    | cons v vs =>
      simp only [merge]
      rw [cmp_self, if_neg (by omega), if_neg (by omega)]
      have h : decide (v.c < v.c) = false := by simp
      rw [h]
      exact ih vs

/-- 'Compare', told by (behind, ahead). -/
def comp (v w : List Ent) : Bool × Bool := merge (v.length + w.length + 1) v w false false

theorem comp_swap (v w : List Ent) : comp w v = ((comp v w).2, (comp v w).1) := by
  unfold comp
  rw [Nat.add_comm w.length v.length]
  exact merge_swap _ _ _ _ _

theorem comp_self (v : List Ent) : comp v v = (false, false) := merge_self _ _

/-- The state of the loop: the places i, j; what has been found. -/
def St (v w : List Ent) (R : Bool × Bool) (f i j : Nat) (b a : Bool) : Prop := merge f (v.drop i) (w.drop j) b a = R ∧ (v.length - i) + (w.length - j) < f

def e0 : Ent := ⟨ByteArray.empty, 0⟩

section
variable {v w : List Ent} {R : Bool × Bool} {f i j : Nat} {b a : Bool}

theorem drop_at {l : List Ent} {k : Nat} (hk : k < l.length) : l.drop k = l.getD k e0 :: l.drop (k + 1) := by
  rw [List.drop_eq_getElem_cons hk]
  simp [hk]

theorem St.start : St v w (comp v w) (v.length + w.length + 1) 0 0 false false := ⟨rfl, by omega⟩

theorem St.pos (h : St v w R f i j b a) : ∃ g, f = g + 1 := ⟨f - 1, by have := h.2; omega⟩

theorem St.done (h : St v w R f i j b a) (hi : v.length ≤ i) (hj : w.length ≤ j) : R = (b, a) := by
  obtain ⟨g, rfl⟩ := h.pos
  have h1 := h.1
  rw [List.drop_eq_nil_of_le hi, List.drop_eq_nil_of_le hj] at h1
  exact h1.symm

theorem St.behind_end (h : St v w R (f + 1) i j b a) (hi : v.length ≤ i) (hj : j < w.length) : St v w R f i (j + 1) true a := by
  have h1 := h.1
  rw [List.drop_eq_nil_of_le hi, drop_at hj] at h1
  refine ⟨?_, by have := h.2; omega⟩
  rw [List.drop_eq_nil_of_le hi]
  exact h1

theorem St.ahead_end (h : St v w R (f + 1) i j b a) (hi : i < v.length) (hj : w.length ≤ j) : St v w R f (i + 1) j b true := by
  have h1 := h.1
  rw [List.drop_eq_nil_of_le hj, drop_at hi] at h1
  refine ⟨?_, by have := h.2; omega⟩
  rw [List.drop_eq_nil_of_le hj]
  exact h1

theorem St.ahead (h : St v w R (f + 1) i j b a) (hi : i < v.length) (hj : j < w.length) (hc : cmp (v.getD i e0) (w.getD j e0) < 0) : St v w R f (i + 1) j b true := by
  have h1 := h.1
  rw [drop_at hi, drop_at hj, merge, if_pos hc] at h1
  refine ⟨?_, by have := h.2; omega⟩
  rw [drop_at hj]
  exact h1

theorem St.behind (h : St v w R (f + 1) i j b a) (hi : i < v.length) (hj : j < w.length) (hc : 0 < cmp (v.getD i e0) (w.getD j e0)) : St v w R f i (j + 1) true a := by
  have h1 := h.1
  rw [drop_at hi, drop_at hj, merge, if_neg (by omega), if_pos hc] at h1
  refine ⟨?_, by have := h.2; omega⟩
  rw [drop_at hi]
  exact h1

theorem St.both (h : St v w R (f + 1) i j b a) (hi : i < v.length) (hj : j < w.length) (hc : cmp (v.getD i e0) (w.getD j e0) = 0) :
    St v w R f (i + 1) (j + 1) (b || decide ((v.getD i e0).c < (w.getD j e0).c)) (a || decide ((w.getD j e0).c < (v.getD i e0).c)) := by
  have h1 := h.1
  rw [drop_at hi, drop_at hj, merge, if_neg (by omega), if_neg (by omega)] at h1
  exact ⟨h1, by have := h.2; omega⟩
end

end Vec
