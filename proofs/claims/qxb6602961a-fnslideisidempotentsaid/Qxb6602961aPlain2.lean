/-
  THE STATES of the two loops of 'slide', in plain words: 'OutSt': k edits are taken, S is laid down; 'St': the edit e is on its way, the edits up to place k are taken.
-/
import Derived.Test.Qxb6602961aPlain
namespace Slid

def ed0 : Ed := ⟨0, 0, 0, 0⟩

def OutSt (L : List Ed) (la lb : Int) (A B : Nat → Int) (T S : List Ed) (f k : Nat) : Prop :=
  S ++ next la A B f (L.drop k) = T ∧ (∃ pa pb, Chain la lb pa pb (L.drop k)) ∧ ∀ r rs, L.drop k = r :: rs → size la r rs < f

def St (L : List Ed) (la lb : Int) (A B : Nat → Int) (T S : List Ed) (f k : Nat) (e : Ed) : Prop :=
  S ++ go la A B f e (L.drop (k + 1)) = T ∧ (∃ pa pb, Chain la lb pa pb (e :: L.drop (k + 1))) ∧ size la e (L.drop (k + 1)) < f

section
variable {L : List Ed} {la lb : Int} {A B : Nat → Int} {T S : List Ed} {f k : Nat} {e : Ed}

theorem drop_at (hk : k < L.length) : L.drop k = L.getD k ed0 :: L.drop (k + 1) := by
  rw [List.drop_eq_getElem_cons hk]
  simp [hk]

theorem OutSt.start (h : Chain la lb 0 0 L) (hla : 0 ≤ la) : OutSt L la lb A B (slide la A B L) [] (L.length + la.toNat + 2) 0 := by
  refine ⟨rfl, ⟨0, 0, h⟩, fun r rs hr => ?_⟩
  rw [List.drop_zero] at hr
  subst hr
  have := h.head
  simp [size]
  omega

theorem OutSt.enter (h : OutSt L la lb A B T S f k) (hk : k < L.length) : St L la lb A B T S f k (L.getD k ed0) := by
  obtain ⟨h1, ⟨pa, pb, h2⟩, h3⟩ := h
  rw [drop_at hk] at h1 h2
  exact ⟨h1, ⟨pa, pb, h2⟩, h3 _ _ (drop_at hk)⟩

theorem OutSt.done (h : OutSt L la lb A B T S f k) (hk : L.length ≤ k) : S = T := by
  obtain ⟨h1, _, _⟩ := h
  rw [List.drop_eq_nil_of_le hk] at h1
  simpa [next] using h1

theorem St.bounds (h : St L la lb A B T S f k e) : 0 ≤ e.o ∧ 0 ≤ e.d ∧ 0 ≤ e.n ∧ 0 ≤ e.i ∧ e.o + e.d ≤ la ∧ e.n + e.i ≤ lb := by
  obtain ⟨_, ⟨pa, pb, h2⟩, _⟩ := h
  have := h2.head
  omega

theorem St.pos (h : St L la lb A B T S f k e) : ∃ g, f = g + 1 := ⟨f - 1, by have := h.2.2; omega⟩

theorem St.lay (h : St L la lb A B T S (f + 1) k e) (hg : go la A B (f + 1) e (L.drop (k + 1)) = e :: next la A B f (L.drop (k + 1))) : OutSt L la lb A B T (S ++ [e]) f (k + 1) := by
  obtain ⟨h1, ⟨pa, pb, h2⟩, h3⟩ := h
  refine ⟨by rw [← h1, hg]; simp, ⟨_, _, h2.tail⟩, fun r rs hr => ?_⟩
  have hh := h2.head
  have ht := h2.tail
  rw [hr] at ht h3
  have hr' := ht.head
  simp [size] at h3 ⊢
  omega

theorem St.full (h : St L la lb A B T S (f + 1) k e) (h0 : e.d ≠ 0 ∧ e.i ≠ 0) : OutSt L la lb A B T (S ++ [e]) f (k + 1) := h.lay (go_full h0)

/-- 'e touches the edit behind it', over the places of L. -/
def touchAt (L : List Ed) (k : Nat) (e : Ed) : Prop := k + 1 < L.length ∧ e.o + e.d = (L.getD (k + 1) ed0).o

theorem touchAt_iff : touch e (L.drop (k + 1)) ↔ touchAt L k e := by
  unfold touchAt
  by_cases hk : k + 1 < L.length
  · rw [drop_at hk]; simp [touch, hk]
  · rw [List.drop_eq_nil_of_le (by omega)]; simp [touch, hk]

theorem St.ended (h : St L la lb A B T S (f + 1) k e) (h0 : e.d = 0 ∨ e.i = 0) (ht : ¬ touchAt L k e) (hl : e.o + e.d = la) : OutSt L la lb A B T (S ++ [e]) f (k + 1) :=
  h.lay (go_end h0 (fun x => ht (touchAt_iff.1 x)) hl)

theorem St.stopped (h : St L la lb A B T S (f + 1) k e) (h0 : e.d = 0 ∨ e.i = 0) (ht : ¬ touchAt L k e) (hl : ¬ e.o + e.d = la) (hs : ¬ same A B e) : OutSt L la lb A B T (S ++ [e]) f (k + 1) :=
  h.lay (go_stop h0 (fun x => ht (touchAt_iff.1 x)) hl hs)

theorem St.line (h : St L la lb A B T S f k e) (ht : ¬ touchAt L k e) (hl : ¬ e.o + e.d = la) : e.o + e.d + 1 ≤ la ∧ e.n + e.i + 1 ≤ lb := by
  obtain ⟨_, ⟨pa, pb, h2⟩, _⟩ := h
  exact h2.line (fun x => ht (touchAt_iff.1 x)) hl

theorem St.bumped (h : St L la lb A B T S (f + 1) k e) (h0 : e.d = 0 ∨ e.i = 0) (ht : ¬ touchAt L k e) (hl : ¬ e.o + e.d = la) (hs : same A B e) : St L la lb A B T S f k (bump e) := by
  have hb := h.bounds
  have hline := h.line ht hl
  obtain ⟨h1, ⟨pa, pb, h2⟩, h3⟩ := h
  have ht' : ¬ touch e (L.drop (k + 1)) := fun x => ht (touchAt_iff.1 x)
  refine ⟨by rw [← h1, go_bump h0 ht' hl hs], ⟨pa, pb, h2.bump ht' hl⟩, ?_⟩
  have e1 : (bump e).o = e.o + 1 := rfl
  simp [size, e1] at h3 ⊢
  omega

theorem St.joined (h : St L la lb A B T S (f + 1) k e) (h0 : e.d = 0 ∨ e.i = 0) (hk : k + 1 < L.length) (ht : e.o + e.d = (L.getD (k + 1) ed0).o) : St L la lb A B T S f (k + 1) (join e (L.getD (k + 1) ed0)) := by
  obtain ⟨h1, ⟨pa, pb, h2⟩, h3⟩ := h
  rw [drop_at hk] at h1 h2 h3
  refine ⟨by rw [← h1, go_join h0 ht], ⟨pa, pb, h2.join ht⟩, ?_⟩
  have e1 : (join e (L.getD (k + 1) ed0)).o = e.o := rfl
  simp only [size, e1, List.length_cons] at h3 ⊢
  omega

/-- What is behind e joins it only within the texts. -/
theorem St.next_ok (h : St L la lb A B T S f k e) (hk : k + 1 < L.length) : 0 ≤ (L.getD (k + 1) ed0).d ∧ 0 ≤ (L.getD (k + 1) ed0).i ∧ (L.getD (k + 1) ed0).o + (L.getD (k + 1) ed0).d ≤ la ∧ (L.getD (k + 1) ed0).n + (L.getD (k + 1) ed0).i ≤ lb ∧ 0 ≤ (L.getD (k + 1) ed0).o ∧ 0 ≤ (L.getD (k + 1) ed0).n := by
  obtain ⟨_, ⟨pa, pb, h2⟩, _⟩ := h
  rw [drop_at hk] at h2
  have h3 := h2.head
  have := h2.tail.head
  omega
end

end Slid
