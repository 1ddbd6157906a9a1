/-
  THE PLAIN PART of seat b6603661a: calls as records; what 'compact' keeps; the greedy match of a sublist.
-/
namespace Ring

structure Mk where
  s : Int
  k : Int
  a : ByteArray
  d : Int

def zm : Mk := ⟨0, 0, ByteArray.empty, 0⟩

def waits (x : Mk) : Bool := x.s != 0

/-- What has been kept of L from place h on, behind t rounds. -/
def kp (L : List Mk) (h t : Nat) : List Mk := ((L.drop h).take t).filter waits

theorem kp_zero (L : List Mk) (h : Nat) : kp L h 0 = [] := by simp [kp]

theorem kp_len (L : List Mk) (h t : Nat) : (kp L h t).length ≤ t := by
  unfold kp
  have h1 := List.length_filter_le waits ((L.drop h).take t)
  have h2 : ((L.drop h).take t).length ≤ t := List.length_take_le _ _
  omega

theorem take_snoc {L : List Mk} {h t : Nat} (ht : h + t < L.length) : (L.drop h).take (t + 1) = (L.drop h).take t ++ [L.getD (h + t) zm] := by
  have hl : t < (L.drop h).length := by simp; omega
  rw [List.take_succ_eq_append_getElem hl]
  simp [ht]

theorem kp_keep {L : List Mk} {h t : Nat} (ht : h + t < L.length) (hw : (L.getD (h + t) zm).s ≠ 0) : kp L h (t + 1) = kp L h t ++ [L.getD (h + t) zm] := by
  unfold kp
  rw [take_snoc ht, List.filter_append]
  simp only [List.filter_cons, List.filter_nil]
  rw [if_pos (by simpa [waits] using hw)]

theorem kp_drop {L : List Mk} {h t : Nat} (ht : h + t < L.length) (hw : (L.getD (h + t) zm).s = 0) : kp L h (t + 1) = kp L h t := by
  unfold kp
  rw [take_snoc ht, List.filter_append]
  simp only [List.filter_cons, List.filter_nil]
  rw [if_neg (by simpa [waits] using hw)]
  simp

theorem kp_all (L : List Mk) (h : Nat) : kp L h (L.length - h) = (L.drop h).filter waits := by
  unfold kp
  rw [List.take_of_length_le (by simp)]

/-- The waiting calls, counted. -/
def cnt (L : List Mk) (i : Nat) : Nat := ((L.take i).filter waits).length

theorem cnt_zero (L : List Mk) : cnt L 0 = 0 := by simp [cnt]
theorem cnt_le (L : List Mk) (i : Nat) : cnt L i ≤ i := by
  unfold cnt
  have h1 := List.length_filter_le waits (L.take i)
  have h2 : (L.take i).length ≤ i := List.length_take_le _ _
  omega
theorem take_snoc' {L : List Mk} {t : Nat} (ht : t < L.length) : L.take (t + 1) = L.take t ++ [L.getD t zm] := by
  rw [List.take_succ_eq_append_getElem ht]
  simp [ht]
theorem cnt_yes {L : List Mk} {i : Nat} (hi : i < L.length) (hw : (L.getD i zm).s ≠ 0) : cnt L (i + 1) = cnt L i + 1 := by
  unfold cnt
  rw [take_snoc' hi, List.filter_append]
  simp only [List.filter_cons, List.filter_nil]
  rw [if_pos (by simpa [waits] using hw)]
  simp
theorem cnt_no {L : List Mk} {i : Nat} (hi : i < L.length) (hw : (L.getD i zm).s = 0) : cnt L (i + 1) = cnt L i := by
  unfold cnt
  rw [take_snoc' hi, List.filter_append]
  simp only [List.filter_cons, List.filter_nil]
  rw [if_neg (by simpa [waits] using hw)]
  simp

/-- Where nothing waits ahead of h, what is kept from h on is all that waits. -/
theorem kept_len {L : List Mk} {h : Nat} (h0 : ∀ i, i < h → (L.getD i zm).s = 0) (hh : h ≤ L.length) : ((L.drop h).filter waits).length = cnt L L.length := by
  unfold cnt
  rw [List.take_length]
  have e : L = L.take h ++ L.drop h := (List.take_append_drop h L).symm
  have hz : (L.take h).filter waits = [] := by
    rw [List.filter_eq_nil_iff]
    intro x hx
    obtain ⟨i, hi, rfl⟩ := List.mem_iff_getElem.1 hx
    have hi' : i < h := by simp at hi; omega
    have hl : i < L.length := by simp at hi; omega
    have := h0 i hi'
    simp [hl] at this
    simp [waits, this]
  conv => rhs; rw [e, List.filter_append, hz]
  simp

theorem kept_waits {L : List Mk} {h i : Nat} (hi : i < ((L.drop h).filter waits).length) : (((L.drop h).filter waits).getD i zm).s ≠ 0 := by
  have hm : ((L.drop h).filter waits)[i] ∈ (L.drop h).filter waits := List.getElem_mem _
  have := (List.mem_filter.1 hm).2
  have e : ((L.drop h).filter waits).getD i zm = ((L.drop h).filter waits)[i] := by simp [hi]
  rw [e]
  simpa [waits] using this

theorem kept_all {L : List Mk} {h : Nat} {P : Mk → Prop} (hp : ∀ i, i < L.length → P (L.getD i zm)) : ∀ i, i < ((L.drop h).filter waits).length → P (((L.drop h).filter waits).getD i zm) := by
  intro i hi
  have hm : ((L.drop h).filter waits)[i] ∈ (L.drop h).filter waits := List.getElem_mem _
  have hm2 : ((L.drop h).filter waits)[i] ∈ L := List.mem_of_mem_drop (List.mem_filter.1 hm).1
  obtain ⟨j, hj, e⟩ := List.mem_iff_getElem.1 hm2
  have e1 : ((L.drop h).filter waits).getD i zm = ((L.drop h).filter waits)[i] := by simp [hi]
  have e2 : L.getD j zm = L[j] := by simp [hj]
  rw [e1, ← e, ← e2]
  exact hp j hj

/-- THE GREEDY MATCH: the calls of K from place i on lie, in their order, among L's from place j on. -/
def Lies (K L : List Mk) (i j : Nat) : Prop := List.Sublist (K.drop i) (L.drop j)

theorem Lies.start (L : List Mk) (h : Nat) : Lies ((L.drop h).filter waits) L 0 h := by
  unfold Lies
  rw [List.drop_zero]
  exact List.filter_sublist

theorem drop_at {l : List Mk} {k : Nat} (hk : k < l.length) : l.drop k = l.getD k zm :: l.drop (k + 1) := by
  rw [List.drop_eq_getElem_cons hk]
  simp [hk]

theorem Lies.more {K L : List Mk} {i j : Nat} (h : Lies K L i j) (hi : i < K.length) : j < L.length := by
  rcases Nat.lt_or_ge j L.length with h' | h'
  · exact h'
  · unfold Lies at h
    rw [drop_at hi, List.drop_eq_nil_of_le h'] at h
    cases h

theorem Lies.hit {K L : List Mk} {i j : Nat} (h : Lies K L i j) (hi : i < K.length) (hj : j < L.length) (e : L.getD j zm = K.getD i zm) : Lies K L (i + 1) (j + 1) := by
  unfold Lies at h ⊢
  rw [drop_at hi, drop_at hj, e] at h
  exact List.cons_sublist_cons.1 h

theorem Lies.miss {K L : List Mk} {i j : Nat} (h : Lies K L i j) (hi : i < K.length) (hj : j < L.length) (e : L.getD j zm ≠ K.getD i zm) : Lies K L i (j + 1) := by
  unfold Lies at h ⊢
  rw [drop_at hi, drop_at hj] at h
  rw [drop_at hi]
  generalize L.getD j zm = y at *
  generalize K.getD i zm = x at *
  cases h with
  | cons _ h => exact h
  | cons_cons _ h => exact absurd rfl e

theorem mk_ext {x y : Mk} (h1 : x.s = y.s) (h2 : x.d = y.d) (h3 : x.k = y.k) (h4 : x.a = y.a) : x = y := by
  cases x; cases y; simp_all
end Ring
