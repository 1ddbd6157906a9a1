/-
  THE ROW's STEP: the eight arguments opened, the walk, the arguments read again.
-/
import Derived.Test.Qxb6603661aW6
import Derived.OpenShut
import Derived.ShutString
import Derived.ChangeOld
import Derived.Below
import Derived.Deep.Slices
import Derived.SliceStrings
namespace Go.Proofs.Qxb6603661a
open Go.ChangeShapes Go.WideShapes Go.ChangeAt Go.RowKit Zz

theorem law_any (a0 a1 a2 a3 : Option Addr) (n0 n1 n2 n3 c0 c1 c2 c3 : Nat) (hd op : Int) (ix ar : Bool) (S D K : Nat → Int) (A : Nat → ByteArray) (w : World)
    (h0 : n0 ≤ maxLen) (h1 : n1 ≤ maxLen) (h2 : n2 ≤ maxLen) (h3 : n3 ≤ maxLen)
    (e0 : a0 = none → n0 = 0 ∧ c0 = 0) (e1 : a1 = none → n1 = 0 ∧ c1 = 0) (e2 : a2 = none → n2 = 0 ∧ c2 = 0) (e3 : a3 = none → n3 = 0 ∧ c3 = 0)
    (hS : VRow w a0 n0 (fun i => .int .u64 (S i))) (hD : VRow w a1 n1 (fun i => .int .i64 (D i))) (hK : VRow w a2 n2 (fun i => .int .u64 (K i))) (hA : VRow w a3 n3 (fun i => .string (A i)))
    (hwf : ∀ i, i < n0 → (Lit.int .u64 (S i)).wf = true) :
    Calls Try.prog 5 #[.slice a0 n0 c0, .slice a1 n1 c1, .slice a2 n2 c2, .slice a3 n3 c3, .int .i64 hd, .int .i64 op, .bool ix, .bool ar] w fun e w' => RetTrue w e w' := by
  cases ix with
  | false => exact law_false a0 a1 a2 a3 n0 n1 n2 n3 c0 c1 c2 c3 hd op ar S D K A w h0 h1 h2 h3 e0 e1 e2 e3 hS hD hK hA hwf
  | true => exact law_true a0 a1 a2 a3 n0 n1 n2 n3 c0 c1 c2 c3 hd op ar S D K A w h0 h1 h2 h3 e0 e1 e2 e3 hS hD hK hA hwf

theorem own : ownKnob Try.prog.godebug = none := by kernel_rfl
theorem laidOut : laidOutB Try.prog = true := by kernel_rfl
theorem cells9 : Try.prog.cellsOf 9 = 1 := by kernel_rfl
theorem cells25 : Try.prog.cellsOf 25 = 1 := by kernel_rfl
theorem cells2 : Try.prog.cellsOf 2 = 1 := by kernel_rfl

section
variable {H : Type} {enc : TypeId × Value → H} {W : World}

theorem vrow_of_cells {a : Addr} {len : Nat} {V : Nat → Value} (h : ∀ i, i < len → W.cell? (a.add i) = some (V i)) : VRow W (some a) len V := by
  by_cases h0 : len = 0
  · exact .inl h0
  · obtain ⟨b, off, spot⟩ := a
    have hspot : spot = none := by
      have := World.cell?_spot (h 0 (by omega))
      simpa [Addr.add] using this
    subst hspot
    refine .inr ⟨b, off, rfl, ?_, fun i hi => ?_⟩
    · have := World.block_lt_of_cell? _ _ (h 0 (by omega))
      simpa [Addr.add] using this
    · have := h i hi
      rw [add_plain] at this
      exact this

theorem u64s_open {a : Option Addr} {len cap fuel : Nat} {x : DataW H × List MemPlace} (h : DataW.trod enc Try.prog W 0 (fun _ => true) true fuel 22 (Value.slice a len cap).cells.toList = some x) :
    ∃ A : Nat → Int, len ≤ maxLen ∧ (a = none → len = 0 ∧ cap = 0) ∧ VRow W a len (fun i => .int .u64 (A i)) ∧ ∀ i, i < len → (Lit.int .u64 (A i)).wf = true := by
  rcases open_ints Try.underlying22 Try.underlying25 cells25 h with ⟨hcs, _⟩ | ⟨x, l, c, zs, hcs, _, hl, hm, hz, _, hcell, hwz⟩
  · simp [Value.cells] at hcs
    obtain ⟨rfl, rfl, rfl⟩ := hcs
    exact ⟨fun _ => 0, Nat.zero_le _, fun _ => ⟨rfl, rfl⟩, .inl rfl, fun i hi => absurd hi (Nat.not_lt_zero _)⟩
  · simp [Value.cells] at hcs
    obtain ⟨rfl, rfl, rfl⟩ := hcs
    simp only [if_true] at hz
    refine ⟨fun i => zs.getD i 0, by omega, fun h => (by cases h), vrow_of_cells fun i hi => hcell i (by omega), fun i hi => ?_⟩
    have hi' : i < zs.length := by omega
    have e : zs.getD i 0 = zs[i] := by simp [hi']
    show (Lit.int .u64 (zs.getD i 0)).wf = true
    rw [e]
    exact hwz _ (List.getElem_mem _)

theorem i64s_open {a : Option Addr} {len cap fuel : Nat} {x : DataW H × List MemPlace} (h : DataW.trod enc Try.prog W 0 (fun _ => true) true fuel 28 (Value.slice a len cap).cells.toList = some x) :
    ∃ A : Nat → Int, len ≤ maxLen ∧ (a = none → len = 0 ∧ cap = 0) ∧ VRow W a len (fun i => .int .i64 (A i)) := by
  rcases open_ints Try.underlying28 Try.underlying2 cells2 h with ⟨hcs, _⟩ | ⟨x, l, c, zs, hcs, _, hl, hm, hz, _, hcell, hwz⟩
  · simp [Value.cells] at hcs
    obtain ⟨rfl, rfl, rfl⟩ := hcs
    exact ⟨fun _ => 0, Nat.zero_le _, fun _ => ⟨rfl, rfl⟩, .inl rfl⟩
  · simp [Value.cells] at hcs
    obtain ⟨rfl, rfl, rfl⟩ := hcs
    simp only [if_true] at hz
    exact ⟨fun i => zs.getD i 0, by omega, fun h => (by cases h), vrow_of_cells fun i hi => hcell i (by omega)⟩

theorem strs_open {a : Option Addr} {len cap fuel : Nat} {x : DataW H × List MemPlace} (h : DataW.trod enc Try.prog W 0 (fun _ => true) true fuel 29 (Value.slice a len cap).cells.toList = some x) :
    ∃ S : Nat → ByteArray, len ≤ maxLen ∧ (a = none → len = 0 ∧ cap = 0) ∧ VRow W a len (fun i => .string (S i)) := by
  rcases open_strings Try.underlying29 Try.underlying9 cells9 h with ⟨hcs, _⟩ | ⟨x, l, c, ss, hcs, _, hl, hm, hz, _, hcell, hws⟩
  · simp [Value.cells] at hcs
    obtain ⟨rfl, rfl, rfl⟩ := hcs
    exact ⟨fun _ => ByteArray.empty, Nat.zero_le _, fun _ => ⟨rfl, rfl⟩, .inl rfl⟩
  · simp [Value.cells] at hcs
    obtain ⟨rfl, rfl, rfl⟩ := hcs
    simp only [if_true] at hz
    exact ⟨fun i => ss.getD i ByteArray.empty, by omega, fun h => (by cases h), vrow_of_cells fun i hi => hcell i (by omega)⟩
end

set_option maxRecDepth 100000 in
theorem lifted (os : Os) (started : os.Started) (H : Type) (enc : TypeId × Value → H) :
    ReturnsInHanded {} Try.checked os 5 .any (Rows.fnQueueCompactKeepsExactlyTheWaitingCallsInOrderSpec.pre6 enc Try.prog Try.f5 Rows.fnQueueCompactKeepsExactlyTheWaitingCallsInOrderRow.domain false) (Rows.fnQueueCompactKeepsExactlyTheWaitingCallsInOrderSpec.post enc Try.prog Try.f5 false true false false) := by
  refine returnsInHanded_of_change (C := Try.checked) own started (by kernel_rfl) Try.func5
    (ChangeSpec.witness6 (enc := enc) (C := Try.checked) false ⟨#[], #[.slice none 0 0, .slice none 0 0, .slice none 0 0, .slice none 0 0, .int .i64 0, .int .i64 0, .bool false, .bool false], []⟩ 8 (by kernel_rfl) (by kernel_rfl) (by kernel_rfl) (by kernel_rfl)) ?_
  intro W base args ds gs before hval0 hW hcnd _
  have hval : ∀ (j : Nat) t v, Try.f5.params[j]? = some t → args[j]? = some v → Value.okWide Try.prog W .any base t v := hval0
  have hW' := hW
  obtain ⟨p, q, hA0, hV, rfl, hfz, hnd⟩ := hW
  have hA : DataW.TrodAll enc Try.prog W 0 (fun _ => true) true Try.f5.params.toList args.toList ds p := hA0
  rw [Try.params5] at hA hval
  obtain ⟨v0, vs0, d0, ds0, p0, q0, hargs, rfl, rfl, h0, r0⟩ := trodAll_cons hA
  obtain ⟨v1, vs1, d1, ds1, p1, q1, rfl, rfl, rfl, h1, r1⟩ := trodAll_cons r0
  obtain ⟨v2, vs2, d2, ds2, p2, q2, rfl, rfl, rfl, h2, r2⟩ := trodAll_cons r1
  obtain ⟨v3, vs3, d3, ds3, p3, q3, rfl, rfl, rfl, h3, r3⟩ := trodAll_cons r2
  obtain ⟨v4, vs4, d4, ds4, p4, q4, rfl, rfl, rfl, h4, r4⟩ := trodAll_cons r3
  obtain ⟨v5, vs5, d5, ds5, p5, q5, rfl, rfl, rfl, h5, r5⟩ := trodAll_cons r4
  obtain ⟨v6, vs6, d6, ds6, p6, q6, rfl, rfl, rfl, h6, r6⟩ := trodAll_cons r5
  obtain ⟨v7, vs7, d7, ds7, p7, q7, rfl, rfl, rfl, h7, r7⟩ := trodAll_cons r6
  obtain ⟨rfl, rfl, rfl⟩ := trodAll_nil r7
  obtain rfl : args = #[v0, v1, v2, v3, v4, v5, v6, v7] := by cases args; simp_all
  obtain ⟨rfl, rfl⟩ := trodVars_none hV
  obtain ⟨a0, len0, cap0, rfl⟩ := okWide_slice Try.underlying22 (hval 0 22 v0 rfl rfl)
  obtain ⟨a1, len1, cap1, rfl⟩ := okWide_slice Try.underlying28 (hval 1 28 v1 rfl rfl)
  obtain ⟨a2, len2, cap2, rfl⟩ := okWide_slice Try.underlying22 (hval 2 22 v2 rfl rfl)
  obtain ⟨a3, len3, cap3, rfl⟩ := okWide_slice Try.underlying29 (hval 3 29 v3 rfl rfl)
  obtain ⟨x4, rfl, rfl, rfl, w4⟩ := open_int Try.underlying3 (hval 4 3 v4 rfl rfl) h4
  obtain ⟨x5, rfl, rfl, rfl, w5⟩ := open_int Try.underlying3 (hval 5 3 v5 rfl rfl) h5
  obtain ⟨x6, rfl, rfl, rfl⟩ := open_bool Try.underlying4 (hval 6 4 v6 rfl rfl) h6
  obtain ⟨x7, rfl, rfl, rfl⟩ := open_bool Try.underlying4 (hval 7 4 v7 rfl rfl) h7
  have k0 := h0
  have k1 := h1
  have k2 := h2
  have k3 := h3
  have lt0 : ∀ x ∈ p0, x.block < W.heap.size := by obtain ⟨m, hm⟩ := k0; exact DataW.trod_lt m _ _ _ hm
  have lt1 : ∀ x ∈ p1, x.block < W.heap.size := by obtain ⟨m, hm⟩ := k1; exact DataW.trod_lt m _ _ _ hm
  have lt2 : ∀ x ∈ p2, x.block < W.heap.size := by obtain ⟨m, hm⟩ := k2; exact DataW.trod_lt m _ _ _ hm
  have lt3 : ∀ x ∈ p3, x.block < W.heap.size := by obtain ⟨m, hm⟩ := k3; exact DataW.trod_lt m _ _ _ hm
  obtain ⟨S, m0, n0, e0, hwf⟩ : ∃ A : Nat → Int, len0 ≤ maxLen ∧ (a0 = none → len0 = 0 ∧ cap0 = 0) ∧ VRow W a0 len0 (fun i => .int .u64 (A i)) ∧ ∀ i, i < len0 → (Lit.int .u64 (A i)).wf = true := by
    obtain ⟨fuel, hf⟩ := h0
    exact u64s_open hf
  obtain ⟨D, m1, n1, e1⟩ : ∃ A : Nat → Int, len1 ≤ maxLen ∧ (a1 = none → len1 = 0 ∧ cap1 = 0) ∧ VRow W a1 len1 (fun i => .int .i64 (A i)) := by
    obtain ⟨fuel, hf⟩ := h1
    exact i64s_open hf
  obtain ⟨K, m2, n2, e2, _⟩ : ∃ A : Nat → Int, len2 ≤ maxLen ∧ (a2 = none → len2 = 0 ∧ cap2 = 0) ∧ VRow W a2 len2 (fun i => .int .u64 (A i)) ∧ ∀ i, i < len2 → (Lit.int .u64 (A i)).wf = true := by
    obtain ⟨fuel, hf⟩ := h2
    exact u64s_open hf
  obtain ⟨A, m3, n3, e3⟩ : ∃ S : Nat → ByteArray, len3 ≤ maxLen ∧ (a3 = none → len3 = 0 ∧ cap3 = 0) ∧ VRow W a3 len3 (fun i => .string (S i)) := by
    obtain ⟨fuel, hf⟩ := h3
    exact strs_open hf
  clear hA0 hval0
  refine (law_any a0 a1 a2 a3 len0 len1 len2 len3 cap0 cap1 cap2 cap3 x4 x5 x6 x7 S D K A W m0 m1 m2 m3 n0 n1 n2 n3 e0 e1 e2 e3 hwf).mono fun e W' ⟨he, bel⟩ => ?_
  subst he
  exact ⟨_, rfl, _, _, _, [], _, [], hW', trodAll_mk1 (shut_bool Try.underlying4 _), (trodAll_cons_mk (Below.trod laidOut (by kernel_rfl) (of_decide_eq_true (by kernel_rfl)) k0 bel lt0) (trodAll_cons_mk (Below.trod laidOut (by kernel_rfl) (of_decide_eq_true (by kernel_rfl)) k1 bel lt1) (trodAll_cons_mk (Below.trod laidOut (by kernel_rfl) (of_decide_eq_true (by kernel_rfl)) k2 bel lt2) (trodAll_cons_mk (Below.trod laidOut (by kernel_rfl) (of_decide_eq_true (by kernel_rfl)) k3 bel lt3)
    (trodAll_cons_mk (shut_int Try.underlying3 w4) (trodAll_cons_mk (shut_int Try.underlying3 w5) (trodAll_cons_mk (shut_bool Try.underlying4 _) (trodAll_cons_mk (shut_bool Try.underlying4 _) trodAll_mk0)))))))), rfl, bel.frame _, fun h => by cases h⟩

theorem over : Rows.fnQueueCompactKeepsExactlyTheWaitingCallsInOrderRow.holds Try.pinned (OpenSpec.ofChange Rows.fnQueueCompactKeepsExactlyTheWaitingCallsInOrderSpec) :=
  OpenClaim.holds_of_wide 5 Try.f5 rfl rfl rfl rfl rfl rfl rfl ⟨rfl, rfl, rfl, rfl, rfl⟩ rfl rfl rfl rfl rfl (by kernel_rfl) Try.func5 (by kernel_rfl)
    (of_decide_eq_true (by kernel_rfl)) (by unfold Func.isWrapper; first | (rw [if_pos (by decide +kernel)]; kernel_rfl) | (rw [if_neg (by decide +kernel)]; exact ⟨rfl, rfl⟩))
    (fun os started H enc _ => lifted os started H enc)

/-- ████ THE STATEMENT ████ -/
theorem queue_compact_law : Rows.FnQueueCompactKeepsExactlyTheWaitingCallsInOrderSaid := over
end Go.Proofs.Qxb6603661a
