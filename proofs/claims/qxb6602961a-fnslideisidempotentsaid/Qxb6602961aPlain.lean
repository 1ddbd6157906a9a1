/-
  THE PLAIN LAW of seat b6602961a: 'slide' as a function on lists, with no Go in sight. 'go la A B f e rest': the edit 'e' is on its way, 'rest' is what follows it; 'f': fuel.
-/
namespace Slid

structure Ed where
  o : Int
  d : Int
  n : Int
  i : Int

def touch (e : Ed) : List Ed → Prop
  | [] => False
  | r :: _ => e.o + e.d = r.o

def join (e r : Ed) : Ed := ⟨e.o, e.d + r.d, e.n, e.i + r.i⟩
def bump (e : Ed) : Ed := ⟨e.o + 1, e.d, e.n + 1, e.i⟩
abbrev same (A B : Nat → Int) (e : Ed) : Prop := (0 < e.d ∧ A e.o.toNat = A (e.o + e.d).toNat) ∨ (0 < e.i ∧ B e.n.toNat = B (e.n + e.i).toNat)

def go (la : Int) (A B : Nat → Int) : Nat → Ed → List Ed → List Ed
  | 0, _, _ => []
  | f + 1, e, [] =>
    if e.d = 0 ∨ e.i = 0 then
      if e.o + e.d = la then [e]
      else if same A B e then go la A B f (bump e) []
      else [e]
    else [e]
  | f + 1, e, r :: rs =>
    if e.d = 0 ∨ e.i = 0 then
      if e.o + e.d = r.o then go la A B f (join e r) rs
      else if e.o + e.d = la then e :: go la A B f r rs
      else if same A B e then go la A B f (bump e) (r :: rs)
      else e :: go la A B f r rs
    else e :: go la A B f r rs

/-- The whole run: what follows once the edit before has been laid down. -/
def next (la : Int) (A B : Nat → Int) (f : Nat) : List Ed → List Ed
  | [] => []
  | r :: rs => go la A B f r rs

/-- Edits in their order, from the places pa, pb on. -/
def Chain (la lb : Int) : Int → Int → List Ed → Prop
  | pa, pb, [] => la - pa = lb - pb ∧ 0 ≤ pa ∧ pa ≤ la ∧ 0 ≤ pb ∧ pb ≤ lb
  | pa, pb, e :: es => 0 ≤ pa ∧ 0 ≤ pb ∧ pa ≤ e.o ∧ pb ≤ e.n ∧ 0 ≤ e.d ∧ 0 ≤ e.i ∧ e.o + e.d ≤ la ∧ e.n + e.i ≤ lb ∧ e.o - pa = e.n - pb ∧ Chain la lb (e.o + e.d) (e.n + e.i) es

def stuck (la : Int) (A B : Nat → Int) (e : Ed) (rest : List Ed) : Prop :=
  (e.d ≠ 0 ∧ e.i ≠ 0) ∨ (¬ touch e rest ∧ (e.o + e.d = la ∨ ¬ same A B e))

def Stuck (la : Int) (A B : Nat → Int) : List Ed → Prop
  | [] => True
  | e :: es => stuck la A B e es ∧ Stuck la A B es

/-- How many rounds are to come at most. -/
def size (la : Int) (e : Ed) (rest : List Ed) : Nat := rest.length + (la - e.o).toNat

theorem Chain.weak {la lb pa pb : Int} {es : List Ed} (h : Chain la lb pa pb es) {qa qb : Int} (h1 : 0 ≤ qa) (h2 : qa ≤ pa) (h3 : 0 ≤ qb) (h5 : pa - qa = pb - qb) : Chain la lb qa qb es := by
  cases es with
  | nil => simp only [Chain] at *; omega
  | cons e es =>
    simp only [Chain] at *
    obtain ⟨a1, a2, a3, a4, a5, a6, a7, a8, a9, a10⟩ := h
    exact ⟨by omega, by omega, by omega, by omega, a5, a6, a7, a8, by omega, a10⟩

/-- What follows an edit begins no earlier than it ends; and what is left of the two texts behind it is of one length. -/
theorem Chain.room {la lb pa pb : Int} {es : List Ed} (h : Chain la lb pa pb es) : (∀ r rs, es = r :: rs → pa ≤ r.o ∧ r.o - pa = r.n - pb ∧ r.o ≤ la ∧ r.n ≤ lb ∧ 0 ≤ r.d ∧ 0 ≤ r.i) := by
  intro r rs he
  subst he
  simp only [Chain] at h
  omega

theorem Chain.end_le {la lb pa pb : Int} {es : List Ed} (h : Chain la lb pa pb es) : 0 ≤ pa ∧ pa ≤ la ∧ 0 ≤ pb ∧ pb ≤ lb := by
  cases es with
  | nil => simp only [Chain] at h; omega
  | cons e es => simp only [Chain] at h; omega

theorem Chain.tail {la lb pa pb : Int} {e : Ed} {es : List Ed} (h : Chain la lb pa pb (e :: es)) : Chain la lb (e.o + e.d) (e.n + e.i) es := by
  simp only [Chain] at h
  exact h.2.2.2.2.2.2.2.2.2

theorem Chain.head {la lb pa pb : Int} {e : Ed} {es : List Ed} (h : Chain la lb pa pb (e :: es)) : 0 ≤ pa ∧ 0 ≤ pb ∧ pa ≤ e.o ∧ pb ≤ e.n ∧ 0 ≤ e.d ∧ 0 ≤ e.i ∧ e.o + e.d ≤ la ∧ e.n + e.i ≤ lb ∧ e.o - pa = e.n - pb := by
  simp only [Chain] at h
  omega

/-- There is a line behind the edit that touches neither the next edit nor the text's end: in both texts. -/
theorem Chain.line {la lb pa pb : Int} {e : Ed} {es : List Ed} (h : Chain la lb pa pb (e :: es)) (ht : ¬ touch e es) (hl : ¬ e.o + e.d = la) : e.o + e.d + 1 ≤ la ∧ e.n + e.i + 1 ≤ lb := by
  have h1 := h.head
  have h2 := h.tail
  cases es with
  | nil => simp only [Chain] at h2; omega
  | cons r rs => have := h2.room r rs rfl; have h4 := h2.head; simp only [touch] at ht; omega

theorem Chain.bump {la lb pa pb : Int} {e : Ed} {es : List Ed} (h : Chain la lb pa pb (e :: es)) (ht : ¬ touch e es) (hl : ¬ e.o + e.d = la) : Chain la lb pa pb (bump e :: es) := by
  have h0 := h.line ht hl
  have h1 := h.head
  have h2 := h.tail
  have e1 : (Slid.bump e).o = e.o + 1 := rfl
  have e2 : (Slid.bump e).d = e.d := rfl
  have e3 : (Slid.bump e).n = e.n + 1 := rfl
  have e4 : (Slid.bump e).i = e.i := rfl
  simp only [Chain, e1, e2, e3, e4]
  refine ⟨by omega, by omega, by omega, by omega, by omega, by omega, by omega, by omega, by omega, ?_⟩
  cases es with
  | nil => simp only [Chain] at h2 ⊢; omega
  | cons r rs =>
    simp only [touch] at ht
    simp only [Chain] at h2 ⊢
    obtain ⟨a1, a2, a3, a4, a5, a6, a7, a8, a9, a10⟩ := h2
    exact ⟨by omega, by omega, by omega, by omega, a5, a6, a7, a8, by omega, a10⟩

theorem Chain.join {la lb pa pb : Int} {e r : Ed} {rs : List Ed} (h : Chain la lb pa pb (e :: r :: rs)) (ht : e.o + e.d = r.o) : Chain la lb pa pb (join e r :: rs) := by
  have h1 := h.head
  have h2 := h.tail
  have h3 := h2.head
  have h4 := h2.tail
  have e1 : (Slid.join e r).o = e.o := rfl
  have e2 : (Slid.join e r).d = e.d + r.d := rfl
  have e3 : (Slid.join e r).n = e.n := rfl
  have e4 : (Slid.join e r).i = e.i + r.i := rfl
  simp only [Chain, e1, e2, e3, e4]
  refine ⟨by omega, by omega, by omega, by omega, by omega, by omega, by omega, by omega, by omega, ?_⟩
  rw [show e.o + (e.d + r.d) = r.o + r.d by omega, show e.n + (e.i + r.i) = r.n + r.i by omega]
  exact h4

theorem go_nil (la : Int) (A B : Nat → Int) (f : Nat) (e : Ed) : go la A B (f + 1) e [] =
    if e.d = 0 ∨ e.i = 0 then (if e.o + e.d = la then [e] else if same A B e then go la A B f (bump e) [] else [e]) else [e] := by
  rw [go]

theorem go_cons (la : Int) (A B : Nat → Int) (f : Nat) (e r : Ed) (rs : List Ed) : go la A B (f + 1) e (r :: rs) =
    if e.d = 0 ∨ e.i = 0 then (if e.o + e.d = r.o then go la A B f (join e r) rs else if e.o + e.d = la then e :: go la A B f r rs else if same A B e then go la A B f (bump e) (r :: rs) else e :: go la A B f r rs) else e :: go la A B f r rs := by
  rw [go]

/-- THE FIVE WAYS OF A ROUND. -/
theorem go_full {la : Int} {A B : Nat → Int} {f : Nat} {e : Ed} {rest : List Ed} (h : e.d ≠ 0 ∧ e.i ≠ 0) : go la A B (f + 1) e rest = e :: next la A B f rest := by
  have h' : ¬ (e.d = 0 ∨ e.i = 0) := by omega
  cases rest with
  | nil => rw [go_nil, if_neg h']; rfl
  | cons r rs => rw [go_cons, if_neg h']; rfl
theorem go_join {la : Int} {A B : Nat → Int} {f : Nat} {e r : Ed} {rs : List Ed} (h : e.d = 0 ∨ e.i = 0) (ht : e.o + e.d = r.o) : go la A B (f + 1) e (r :: rs) = go la A B f (join e r) rs := by
  rw [go_cons, if_pos h, if_pos ht]
theorem go_end {la : Int} {A B : Nat → Int} {f : Nat} {e : Ed} {rest : List Ed} (h : e.d = 0 ∨ e.i = 0) (ht : ¬ touch e rest) (hl : e.o + e.d = la) : go la A B (f + 1) e rest = e :: next la A B f rest := by
  cases rest with
  | nil => rw [go_nil, if_pos h, if_pos hl]; rfl
  | cons r rs => rw [go_cons, if_pos h, if_neg (by simpa [touch] using ht), if_pos hl]; rfl
theorem go_bump {la : Int} {A B : Nat → Int} {f : Nat} {e : Ed} {rest : List Ed} (h : e.d = 0 ∨ e.i = 0) (ht : ¬ touch e rest) (hl : ¬ e.o + e.d = la) (hs : same A B e) : go la A B (f + 1) e rest = go la A B f (bump e) rest := by
  cases rest with
  | nil => rw [go_nil, if_pos h, if_neg hl, if_pos hs]
  | cons r rs => rw [go_cons, if_pos h, if_neg (by simpa [touch] using ht), if_neg hl, if_pos hs]
theorem go_stop {la : Int} {A B : Nat → Int} {f : Nat} {e : Ed} {rest : List Ed} (h : e.d = 0 ∨ e.i = 0) (ht : ¬ touch e rest) (hl : ¬ e.o + e.d = la) (hs : ¬ same A B e) : go la A B (f + 1) e rest = e :: next la A B f rest := by
  cases rest with
  | nil => rw [go_nil, if_pos h, if_neg hl, if_neg hs]; rfl
  | cons r rs => rw [go_cons, if_pos h, if_neg (by simpa [touch] using ht), if_neg hl, if_neg hs]; rfl

/-- An edit that is stuck is laid down as it is. -/
theorem go_stuck {la : Int} {A B : Nat → Int} {f : Nat} {e : Ed} {rest : List Ed} (h : stuck la A B e rest) : go la A B (f + 1) e rest = e :: next la A B f rest := by
  by_cases h0 : e.d = 0 ∨ e.i = 0
  · rcases h with h | ⟨ht, hs⟩
    · omega
    · by_cases hl : e.o + e.d = la
      · exact go_end h0 ht hl
      · exact go_stop h0 ht hl (by rcases hs with hs | hs; exact absurd hs hl; exact hs)
  · exact go_full (by omega)

/-- EVERY ROUND's WAY, as one: laid down where stuck; joined; or one line down. -/
theorem ways {la : Int} {A B : Nat → Int} (e : Ed) (rest : List Ed) : stuck la A B e rest ∨
    ((e.d = 0 ∨ e.i = 0) ∧ ∃ r rs, rest = r :: rs ∧ e.o + e.d = r.o) ∨ ((e.d = 0 ∨ e.i = 0) ∧ ¬ touch e rest ∧ ¬ e.o + e.d = la ∧ same A B e) := by
  by_cases h0 : e.d = 0 ∨ e.i = 0
  · by_cases ht : touch e rest
    · right; left
      cases rest with
      | nil => exact absurd ht (by simp [touch])
      | cons r rs => exact ⟨h0, r, rs, rfl, ht⟩
    · by_cases hl : e.o + e.d = la
      · exact .inl (.inr ⟨ht, .inl hl⟩)
      · by_cases hs : same A B e
        · exact .inr (.inr ⟨h0, ht, hl, hs⟩)
        · exact .inl (.inr ⟨ht, .inr hs⟩)
  · exact .inl (.inl (by omega))

theorem out {la lb : Int} {A B : Nat → Int} (f : Nat) : ∀ (e : Ed) (rest : List Ed) (pa pb : Int), Chain la lb pa pb (e :: rest) → size la e rest < f →
    Chain la lb pa pb (go la A B f e rest) ∧ Stuck la A B (go la A B f e rest) ∧ (∃ x xs, go la A B f e rest = x :: xs ∧ e.o ≤ x.o) ∧ (go la A B f e rest).length ≤ rest.length + 1 := by
  induction f with
  | zero => intro e rest pa pb _ h; exact absurd h (Nat.not_lt_zero _)
  | succ f ih =>
    intro e rest pa pb hc hf
    have hh := hc.head
    rcases ways (la := la) (A := A) (B := B) e rest with hs | ⟨h0, r, rs, rfl, ht⟩ | ⟨h0, ht, hl, hsm⟩
    · rw [go_stuck hs]
      cases rest with
      | nil =>
        simp only [next]
        exact ⟨hc, ⟨hs, trivial⟩, ⟨e, [], rfl, Int.le_refl _⟩, by simp⟩
      | cons r rs =>
        simp only [next]
        have ht := hc.tail
        have hr := ht.head
        obtain ⟨c1, c2, ⟨x, xs, c3, c4⟩, c5⟩ := ih r rs _ _ ht (by simp [size] at hf ⊢; omega)
        refine ⟨?_, ⟨?_, c2⟩, ⟨e, _, rfl, Int.le_refl _⟩, by simp; omega⟩
        · simp only [Chain]
          exact ⟨by omega, by omega, by omega, by omega, by omega, by omega, by omega, by omega, by omega, c1⟩
        · rcases hs with hs | ⟨hn, hs⟩
          · exact .inl hs
          · refine .inr ⟨?_, hs⟩
            rw [c3]
            simp only [touch] at hn ⊢
            omega
    · rw [go_join h0 ht]
      have hr := hc.tail.head
      obtain ⟨c1, c2, ⟨x, xs, c3, c4⟩, c5⟩ := ih (join e r) rs pa pb (hc.join ht) (by have e1 : (join e r).o = e.o := rfl; simp [size, e1] at hf ⊢; omega)
      exact ⟨c1, c2, ⟨x, xs, c3, c4⟩, by simp at c5 ⊢; omega⟩
    · rw [go_bump h0 ht hl hsm]
      have hline := hc.line ht hl
      obtain ⟨c1, c2, ⟨x, xs, c3, c4⟩, c5⟩ := ih (bump e) rest pa pb (hc.bump ht hl) (by have e1 : (bump e).o = e.o + 1 := rfl; simp [size, e1] at hf ⊢; omega)
      exact ⟨c1, c2, ⟨x, xs, c3, by have e1 : (bump e).o = e.o + 1 := rfl; omega⟩, by omega⟩

/-- A list that is stuck comes out as it went in. -/
theorem again {la : Int} {A B : Nat → Int} : ∀ (l : List Ed) (f : Nat), Stuck la A B l → l.length ≤ f → next la A B f l = l := by
  intro l
  induction l with
  | nil => intro f _ _; rfl
  | cons e es ih =>
    intro f h hf
    simp only [next]
    obtain ⟨f, rfl⟩ : ∃ g, f = g + 1 := ⟨f - 1, by simp at hf; omega⟩
    rw [go_stuck h.1, ih f h.2 (by simp at hf; omega)]

/-- 'slide' on a list. -/
def slide (la : Int) (A B : Nat → Int) (l : List Ed) : List Ed := next la A B (l.length + la.toNat + 2) l

theorem slide_out {la lb : Int} {A B : Nat → Int} {l : List Ed} (h : Chain la lb 0 0 l) : Chain la lb 0 0 (slide la A B l) ∧ Stuck la A B (slide la A B l) ∧ (slide la A B l).length ≤ l.length := by
  cases l with
  | nil => exact ⟨h, trivial, by simp [slide, next]⟩
  | cons e es =>
    have hh := h.head
    obtain ⟨c1, c2, _, c4⟩ := out (la := la) (lb := lb) (A := A) (B := B) ((e :: es).length + la.toNat + 2) e es 0 0 h (by simp [size]; omega)
    exact ⟨c1, c2, c4⟩

/-- ████ THE PLAIN LAW: sliding what 'slide' returned gives it back. ████ -/
theorem slide_slide {la lb : Int} {A B : Nat → Int} {l : List Ed} (h : Chain la lb 0 0 l) : slide la A B (slide la A B l) = slide la A B l := by
  obtain ⟨_, c2, _⟩ := slide_out (A := A) (B := B) h
  exact again _ _ c2 (by omega)

end Slid
