/-
  A ROW OF CALLS (six cells each) by its records; 'append' within the room, 'clear': over any program.
-/
import Derived.Test.Qxb6603661aBase
import Derived.Test.Qxb6603661aPlain
namespace Zz
open Go Go.RowKit Ring

def mcells (x : Mk) : List Value := [.int .u64 x.s, .int .u64 x.k, .string x.a, .nilFunc, .nilFunc, .int .i64 x.d]
def mc (M : Nat → Mk) (j : Nat) : Value := (mcells (M (j / 6))).getD (j % 6) (.bool false)

theorem mc_at (M : Nat → Mk) (i r : Nat) (hr : r < 6) : mc M (i * 6 + r) = (mcells (M i)).getD r (.bool false) := by
  unfold mc
  rw [show (i * 6 + r) / 6 = i by omega, show (i * 6 + r) % 6 = r by omega]

theorem mc_congr {M N : Nat → Mk} {n : Nat} (h : ∀ i, i < n → M i = N i) : ∀ j, j < n * 6 → mc M j = mc N j := by
  intro j hj
  unfold mc
  rw [h (j / 6) (by omega)]

/-- The six cells of element i. -/
structure Six (w : World) (b o : Nat) (x : Mk) : Prop where
  c0 : w.cell? ⟨b, o, none⟩ = some (.int .u64 x.s)
  c1 : w.cell? ⟨b, o + 1, none⟩ = some (.int .u64 x.k)
  c2 : w.cell? ⟨b, o + 2, none⟩ = some (.string x.a)
  c3 : w.cell? ⟨b, o + 3, none⟩ = some .nilFunc
  c4 : w.cell? ⟨b, o + 4, none⟩ = some .nilFunc
  c5 : w.cell? ⟨b, o + 5, none⟩ = some (.int .i64 x.d)

theorem six_of_row {w : World} {g t n : Nat} {M : Nat → Mk} (h : w.rowIs g t (n * 6) (mc M)) {i : Nat} (hi : i < n) : Six w g (i * 6) (M i) := by
  refine ⟨?_, ?_, ?_, ?_, ?_, ?_⟩
  · rw [h.cell (i := i * 6) (by omega)]; exact congrArg some (mc_at M i 0 (by omega))
  · rw [h.cell (i := i * 6 + 1) (by omega)]; exact congrArg some (mc_at M i 1 (by omega))
  · rw [h.cell (i := i * 6 + 2) (by omega)]; exact congrArg some (mc_at M i 2 (by omega))
  · rw [h.cell (i := i * 6 + 3) (by omega)]; exact congrArg some (mc_at M i 3 (by omega))
  · rw [h.cell (i := i * 6 + 4) (by omega)]; exact congrArg some (mc_at M i 4 (by omega))
  · rw [h.cell (i := i * 6 + 5) (by omega)]; exact congrArg some (mc_at M i 5 (by omega))

theorem Six.below {w w' : World} {b o B : Nat} {x : Mk} (h : Six w b o x) (hb : Below B w w') (hlt : b < B) : Six w' b o x :=
  ⟨(hb.cell (p := ⟨b, o, none⟩) hlt).trans h.c0, (hb.cell (p := ⟨b, o + 1, none⟩) hlt).trans h.c1, (hb.cell (p := ⟨b, o + 2, none⟩) hlt).trans h.c2,
   (hb.cell (p := ⟨b, o + 3, none⟩) hlt).trans h.c3, (hb.cell (p := ⟨b, o + 4, none⟩) hlt).trans h.c4, (hb.cell (p := ⟨b, o + 5, none⟩) hlt).trans h.c5⟩

/-- A slice of n calls. -/
def MRow (w : World) (a : Option Addr) (n : Nat) (M : Nat → Mk) : Prop :=
  n = 0 ∨ ∃ b off, a = some ⟨b, off, none⟩ ∧ b < w.heap.size ∧ ∀ i, i < n → Six w b (off + i * 6) (M i)

theorem MRow.below {w w' : World} {a : Option Addr} {n : Nat} {M : Nat → Mk} (h : MRow w a n M) (hb : Below w.heap.size w w') : MRow w' a n M := by
  rcases h with h | ⟨b, off, h1, h2, h3⟩
  · exact .inl h
  · exact .inr ⟨b, off, h1, by have := hb.size; omega, fun i hi => (h3 i hi).below hb h2⟩

theorem MRow.cell {w : World} {a : Option Addr} {n : Nat} {M : Nat → Mk} (h : MRow w a n M) {k : Nat} (hk : k < n) :
    ∃ b off, a = some ⟨b, off, none⟩ ∧ b < w.heap.size ∧ ∀ i, i < n → Six w b (off + i * 6) (M i) := by
  rcases h with h | h
  · omega
  · exact h

theorem mrow_of_row {w : World} {g t n m : Nat} {M N : Nat → Mk} (h : w.rowIs g t (n * 6) (mc M)) (hm : m ≤ n) (e : ∀ i, i < m → N i = M i) : MRow w (some ⟨g, 0, none⟩) m N :=
  .inr ⟨g, 0, rfl, h.lt, fun i hi => by rw [Nat.zero_add, e i hi]; exact six_of_row h (by omega)⟩

/-! ### append, clear -/

theorem six_one (x : Mk) : ∀ u ∈ mcells x, u.oneCell' = true := by
  intro u hu
  simp [mcells] at hu
  rcases hu with rfl | rfl | rfl | rfl | rfl <;> rfl

theorem cur_list {c : Array Value} {n : Nat} {f : Nat → Value} (h : ∀ i, i < n → c[i]? = some (f i)) : ∀ i, i < n → c.toList[i]? = some (f i) := by
  intro i hi
  rw [Array.getElem?_toList]
  exact h i hi

theorem run_append_row {P : Program} (w : World) (t ty e : TypeId) (i : TypeInfo) (ht : P.underlying t = some (.slice e)) (hi : P.info? e = some i) (hs : i.size = 6) {g k n : Nat} {M : Nat → Mk}
    (hrow : w.rowIs g e (n * 6) (mc M)) (hk : k < n) (ad : Addr) (x : Mk) (hnews : ∀ j u, (mcells x)[j]? = some u → w.cell? (ad.add j) = some u) :
    ∃ w', (Builtin.append_ #[t, t] ty #[.slice (some ⟨g, 0, none⟩) k n, .slice (some ad) 1 1]).run P w = .ok (.slice (some ⟨g, 0, none⟩) (k + 1) n) w' ∧ w'.rowIs g e (n * 6) (mc fun j => if j = k then x else M j) ∧ w.grownBy w' (some g) := by
  obtain ⟨c, hg, hn, hc⟩ := hrow
  have hl : (mcells x).length = 6 := rfl
  have hr := run_append_room (P := P) w t ty e i ht hi g k n c hg ad 1 1 (mcells x) (by rw [hs, hl]) hnews (six_one x) (by omega) (by rw [hs, hl, hn]; omega)
  refine ⟨_, hr, ?_, grown_setRow _ _ _⟩
  have hcl := cur_list hc
  refine row_setRow hg _ (by simp [hs, hl, hn]; omega) _ (fun j hj => ?_)
  rw [hs, hl, List.getElem?_toArray]
  have hlc : c.toList.length = n * 6 := by simpa using hn
  by_cases h1 : j < k * 6
  · rw [List.append_assoc, List.getElem?_append_left (by simp [hn]; omega), List.getElem?_take, if_pos h1, hcl j hj]
    refine congrArg some ?_
    unfold mc
    dsimp only
    rw [if_neg (by omega)]
  · by_cases h2 : j < k * 6 + 6
    · rw [List.append_assoc, List.getElem?_append_right (by simp [hn]; omega), List.getElem?_append_left (by simp [hn, hl]; omega)]
      have e1 : j - (c.toList.take (k * 6)).length = j % 6 := by simp [hn]; omega
      rw [e1]
      unfold mc
      dsimp only
      rw [if_pos (by omega), List.getD_eq_getElem?_getD, List.getElem?_eq_getElem (by rw [hl]; omega)]
      rfl
    · rw [List.getElem?_append_right (by simp [hn, hl]; omega), List.getElem?_drop]
      have e1 : k * 6 + 6 + (j - (c.toList.take (k * 6) ++ mcells x).length) = j := by simp [hn, hl]; omega
      rw [e1, hcl j hj]
      refine congrArg some ?_
      unfold mc
      dsimp only
      rw [if_neg (by omega)]

theorem wpList_append_row {P : Program} (w : World) {ops : Array Oper} {rest : List Oper} {o : Oper} {a : Act} {Q : Exit → Act → World → Prop}
    (hg : o.guard = none) (s x : Operand) (t : TypeId) (hop : o.op = Op.call { callee := Callee.builtin Builtin.append, args := #[s, x], argTypes := #[t, t] })
    (e : TypeId) (i : TypeInfo) (h1 : P.underlying t = some (.slice e)) (h2 : P.info? e = some i) (h4 : i.size = 6) (g k n : Nat) (M : Nat → Mk)
    (hs : a.eval s = .slice (some ⟨g, 0, none⟩) k n) (hrow : w.rowIs g e (n * 6) (mc M)) (hk : k < n) (ad : Addr) (y : Mk) (hx : a.eval x = .slice (some ad) 1 1) (hnews : ∀ j u, (mcells y)[j]? = some u → w.cell? (ad.add j) = some u)
    (hK : ∀ w', w'.rowIs g e (n * 6) (mc fun j => if j = k then y else M j) → w.grownBy w' (some g) → wpList P ops Q rest (a.put o.dst (.slice (some ⟨g, 0, none⟩) (k + 1) n)) w') :
    wpList P ops Q (o :: rest) a w := by
  refine wpList_plain hg fun K hK' => ?_
  obtain ⟨w', hrun, r1, r2⟩ := run_append_row (P := P) w t o.type e i h1 h2 h4 hrow hk ad y hnews
  unfold Oper.wp
  simp [execOp, hop, resolve, invoke, builtin, hs, hx, hrun, Result.andThen]
  exact hK' _ _ (hK w' r1 r2)

theorem cell_six_new (w : World) (x : Mk) (t : TypeId) : ∀ j u, (mcells x)[j]? = some u → (w.alloc (.cells #[.int .u64 x.s, .int .u64 x.k, .string x.a, .nilFunc, .nilFunc, .int .i64 x.d] t)).cell? ((⟨w.heap.size, 0, none⟩ : Addr).add j) = some u := by
  intro j u hj
  match j, hj with
  | 0, hj => simp [mcells] at hj; subst hj; simp [Addr.add]
  | 1, hj => simp [mcells] at hj; subst hj; simp [Addr.add]
  | 2, hj => simp [mcells] at hj; subst hj; simp [Addr.add]
  | 3, hj => simp [mcells] at hj; subst hj; simp [Addr.add]
  | 4, hj => simp [mcells] at hj; subst hj; simp [Addr.add]
  | 5, hj => simp [mcells] at hj; subst hj; simp [Addr.add]
  | j + 6, hj => simp [mcells] at hj

theorem zero_list (m : Nat) : ∀ j, j < m * 6 → (Builtin.zeroCells (Value.agg #[.int .u64 0, .int .u64 0, .string ByteArray.empty, .nilFunc, .nilFunc, .int .i64 0]).cells m).toList[j]? = some ((mcells zm).getD (j % 6) (.bool false)) := by
  intro j hj
  have hz : (Value.agg #[.int .u64 0, .int .u64 0, .string ByteArray.empty, .nilFunc, .nilFunc, .int .i64 0]).cells = #[.int .u64 0, .int .u64 0, .string ByteArray.empty, .nilFunc, .nilFunc, .int .i64 0] := rfl
  rw [hz]
  have h6 : j % 6 < 6 := Nat.mod_lt _ (by omega)
  simp [Builtin.zeroCells, hj, mcells, zm]
  obtain h | h | h | h | h | h : j % 6 = 0 ∨ j % 6 = 1 ∨ j % 6 = 2 ∨ j % 6 = 3 ∨ j % 6 = 4 ∨ j % 6 = 5 := by omega
  all_goals (rw [h]; rfl)

theorem run_clear_row {P : Program} (w : World) (t e : TypeId) (ht : P.underlying t = some (.slice e)) (hv : ∀ w, (zeroValue e).run P w = .ok (.agg #[.int .u64 0, .int .u64 0, .string ByteArray.empty, .nilFunc, .nilFunc, .int .i64 0]) w) {g m n c : Nat} {M : Nat → Mk}
    (hrow : w.rowIs g e (n * 6) (mc M)) (hm : m < n) :
    ∃ w', (∀ ty, (Builtin.clear_ #[t] ty #[.slice (some ⟨g, m * 6, none⟩) (n - m) c]).run P w = .ok (.tuple #[]) w') ∧ w'.rowIs g e (n * 6) (mc fun j => if j < m then M j else zm) ∧ w.grownBy w' (some g) := by
  obtain ⟨cur, hg, hn, hc⟩ := hrow
  generalize hZ : (Builtin.zeroCells (Value.agg #[.int .u64 0, .int .u64 0, .string ByteArray.empty, .nilFunc, .nilFunc, .int .i64 0]).cells (n - m)).toList = Z
  have hZl : Z.length = (n - m) * 6 := by rw [← hZ]; simp [Builtin.zeroCells]; rfl
  have hZat : ∀ j, j < (n - m) * 6 → Z[j]? = some ((mcells zm).getD (j % 6) (.bool false)) := by rw [← hZ]; exact zero_list (n - m)
  have hZ1 : ∀ v ∈ Z, v.oneCell' = true := by
    intro v hv'
    obtain ⟨j, hj, rfl⟩ := List.mem_iff_getElem.1 hv'
    have := hZat j (by omega)
    rw [List.getElem?_eq_getElem hj] at this
    simp only [Option.some.injEq] at this
    rw [this]
    have h6 : j % 6 < 6 := Nat.mod_lt _ (by omega)
    rw [List.getD_eq_getElem?_getD, List.getElem?_eq_getElem (show j % 6 < (mcells zm).length by simpa [mcells] using h6)]
    exact six_one zm _ (List.getElem_mem _)
  have hst := run_storeCells_at P g (m * 6) e Z 0 cur w hg (by rw [hZl, hn]; omega) hZ1
  simp only [Nat.add_zero] at hst
  obtain ⟨q, hq⟩ : ∃ q, n - m = q + 1 := ⟨n - m - 1, by omega⟩
  refine ⟨_, fun ty => ?_, ?_, grown_setRow w g (cur.toList.take (m * 6) ++ Z ++ cur.toList.drop (m * 6 + Z.length)).toArray⟩
  · rw [hq] at hZ ⊢
    simp [Builtin.clear_, run_underlying ht, hv, hZ, hst]
  · have hcl := cur_list hc
    refine row_setRow hg _ (by simp [hZl, hn]; omega) _ (fun j hj => ?_)
    rw [List.getElem?_toArray]
    by_cases h1 : j < m * 6
    · rw [List.append_assoc, List.getElem?_append_left (by simp [hn]; omega), List.getElem?_take, if_pos h1, hcl j hj]
      refine congrArg some ?_
      unfold mc
      dsimp only
      rw [if_pos (by omega)]
    · rw [List.append_assoc, List.getElem?_append_right (by simp [hn]; omega), List.getElem?_append_left (by simp [hn, hZl]; omega)]
      have e1 : j - (cur.toList.take (m * 6)).length = j - m * 6 := by simp [hn]; omega
      rw [e1, hZat _ (by omega)]
      refine congrArg some ?_
      unfold mc
      dsimp only
      rw [if_neg (by omega), show (j - m * 6) % 6 = j % 6 by omega]
end Zz
