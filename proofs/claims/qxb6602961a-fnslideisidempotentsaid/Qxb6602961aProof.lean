/-
  THE ROW's STEP: the three arguments opened (edits: a slice of structs of four ints; a, b: slices of ints), the walk, the arguments read again.
-/
import Derived.Test.Qxb6602961aW4
import Derived.OpenShut
import Derived.ShutString
import Derived.ChangeOld
import Derived.Below
import Derived.Deep.Slices
import Derived.Lib.SmallJoins
namespace Go.Proofs.Qxb6602961a
open Go.ChangeShapes Go.WideShapes Go.ChangeAt Go.RowKit Zz
open Go.Deep Go.Joins

theorem own : ownKnob Try.prog.godebug = none := by kernel_rfl
theorem laidOut : laidOutB Try.prog = true := by kernel_rfl
theorem cells3 : Try.prog.cellsOf 3 = 1 := by kernel_rfl
theorem cells45 : Try.prog.cellsOf 45 = 4 := by kernel_rfl

section
variable {H : Type} {enc : TypeId × Value → H} {W : World}

/-- One struct of four ints, by its cells. -/
theorem edit_cells {n : Nat} {cs : List Value} {x : DataW H × List MemPlace} (hl : cs.length = 4) (h : DataW.trod enc Try.prog W 0 (fun _ => true) true n 45 cs = some x) :
    ∃ e : Slid.Ed, cs = [.int .i64 e.o, .int .i64 e.d, .int .i64 e.n, .int .i64 e.i] := by
  obtain ⟨y0, y1, y2, y3, m, _, _, h0, h1, h2, h3⟩ := trod_struct4 Try.underlying45 h
  match cs, hl with
  | [v0, v1, v2, v3], _ =>
    simp [cells3] at h0 h1 h2 h3
    obtain ⟨o, e0, _⟩ := DataW.trod_int Try.underlying3 h0
    obtain ⟨d, e1, _⟩ := DataW.trod_int Try.underlying3 h1
    obtain ⟨nn, e2, _⟩ := DataW.trod_int Try.underlying3 h2
    obtain ⟨i, e3, _⟩ := DataW.trod_int Try.underlying3 h3
    simp at e0 e1 e2 e3
    subst e0 e1 e2 e3
    exact ⟨⟨o, d, nn, i⟩, rfl⟩

theorem edits_open {a : Option Addr} {len cap fuel : Nat} {x : DataW H × List MemPlace} (h : DataW.trod enc Try.prog W 0 (fun _ => true) true fuel 31 (Value.slice a len cap).cells.toList = some x) :
    ∃ L : List Slid.Ed, L.length = len ∧ len ≤ maxLen ∧ ERow W a len (fun i => L.getD i Slid.ed0) := by
  rcases open_slice Try.underlying31 h with ⟨hcs, _⟩ | ⟨ad, l, c, m, n, D, Pl, hcs, _, hl, hm, hmm, _, hx⟩
  · simp [Value.cells] at hcs
    obtain ⟨rfl, rfl, rfl⟩ := hcs
    exact ⟨[], rfl, Nat.zero_le _, .inl rfl⟩
  · simp [Value.cells] at hcs
    obtain ⟨rfl, rfl, rfl⟩ := hcs
    simp only [if_true] at hmm
    subst hmm
    haveI : Inhabited Slid.Ed := ⟨Slid.ed0⟩
    obtain ⟨f, hf⟩ := choose_lt (α := Slid.Ed) (n := len) (p := fun i e => W.cell? (ad.add (i * 4)) = some (.int .i64 e.o) ∧ W.cell? (ad.add (i * 4 + 1)) = some (.int .i64 e.d) ∧ W.cell? (ad.add (i * 4 + 2)) = some (.int .i64 e.n) ∧ W.cell? (ad.add (i * 4 + 3)) = some (.int .i64 e.i)) (fun i hi => by
      obtain ⟨cs', h1, h2⟩ := hx i (by omega)
      rw [cells45] at h1
      obtain ⟨_, hlen, hcell⟩ := World.cells?_some h1
      obtain ⟨e, rfl⟩ := edit_cells hlen h2
      have q0 := hcell 0 (by omega)
      have q1 := hcell 1 (by omega)
      have q2 := hcell 2 (by omega)
      have q3 := hcell 3 (by omega)
      rw [Deep.add_add] at q0 q1 q2 q3
      exact ⟨e, q0, q1, q2, q3⟩)
    refine ⟨(List.range len).map f, by simp, by omega, ?_⟩
    by_cases h0 : len = 0
    · exact .inl h0
    · obtain ⟨b, off, spot⟩ := ad
      have hspot : spot = none := by
        have := World.cell?_spot (hf 0 (by omega)).1
        simpa [Addr.add] using this
      subst hspot
      refine .inr ⟨b, off, rfl, ?_, fun i hi => ?_⟩
      · have := World.block_lt_of_cell? _ _ (hf 0 (by omega)).1
        simpa [Addr.add] using this
      · have e : ((List.range len).map f).getD i Slid.ed0 = f i := by simp [hi]
        obtain ⟨q0, q1, q2, q3⟩ := hf i hi
        rw [add_plain] at q0 q1 q2 q3
        simp only [← Nat.add_assoc] at q1 q2 q3
        rw [← e] at q0 q1 q2 q3
        exact ⟨q0, q1, q2, q3⟩

theorem ints_open {a : Option Addr} {len cap fuel : Nat} {x : DataW H × List MemPlace} (h : DataW.trod enc Try.prog W 0 (fun _ => true) true fuel 22 (Value.slice a len cap).cells.toList = some x) :
    ∃ A : Nat → Int, len ≤ maxLen ∧ (a = none → len = 0 ∧ cap = 0) ∧ VRow W a len (fun i => .int .i64 (A i)) := by
  rcases open_ints Try.underlying22 Try.underlying3 cells3 h with ⟨hcs, _⟩ | ⟨x, l, c, zs, hcs, _, hl, hm, hz, _, hcell, hwz⟩
  · simp [Value.cells] at hcs
    obtain ⟨rfl, rfl, rfl⟩ := hcs
    exact ⟨fun _ => 0, Nat.zero_le _, fun _ => ⟨rfl, rfl⟩, .inl rfl⟩
  · simp [Value.cells] at hcs
    obtain ⟨rfl, rfl, rfl⟩ := hcs
    simp only [if_true] at hz
    refine ⟨fun i => zs.getD i 0, by omega, fun h => (by cases h), ?_⟩
    by_cases h0 : len = 0
    · exact .inl h0
    · obtain ⟨b, off, spot⟩ := x
      have hspot : spot = none := by
        have := World.cell?_spot (hcell 0 (by omega))
        simpa [Addr.add] using this
      subst hspot
      refine .inr ⟨b, off, rfl, ?_, fun i hi => ?_⟩
      · have := World.block_lt_of_cell? _ _ (hcell 0 (by omega))
        simpa [Addr.add] using this
      · have := hcell i (by omega)
        rw [add_plain] at this
        exact this
end

set_option maxRecDepth 100000 in
theorem lifted (os : Os) (started : os.Started) (H : Type) (enc : TypeId × Value → H) :
    ReturnsInHanded {} Try.checked os 6 .any (Rows.fnSlideIsIdempotentSpec.pre6 enc Try.prog Try.f6 Rows.fnSlideIsIdempotentRow.domain false) (Rows.fnSlideIsIdempotentSpec.post enc Try.prog Try.f6 false true false false) := by
  refine returnsInHanded_of_change (C := Try.checked) own started (by kernel_rfl) Try.func6
    (ChangeSpec.witness6 (enc := enc) (C := Try.checked) false ⟨#[], #[.slice none 0 0, .slice none 0 0, .slice none 0 0], []⟩ 8 (by kernel_rfl) (by kernel_rfl) (by kernel_rfl) (by kernel_rfl)) ?_
  intro W base args ds gs before hval0 hW hcnd _
  have hval : ∀ (j : Nat) t v, Try.f6.params[j]? = some t → args[j]? = some v → Value.okWide Try.prog W .any base t v := hval0
  have hW' := hW
  obtain ⟨p, q, hA0, hV, rfl, hfz, hnd⟩ := hW
  have hA : DataW.TrodAll enc Try.prog W 0 (fun _ => true) true Try.f6.params.toList args.toList ds p := hA0
  rw [Try.params6] at hA hval
  obtain ⟨v0, vs0, d0, ds0, p0, q0, hargs, rfl, rfl, h0, r0⟩ := trodAll_cons hA
  obtain ⟨v1, vs1, d1, ds1, p1, q1, rfl, rfl, rfl, h1, r1⟩ := trodAll_cons r0
  obtain ⟨v2, vs2, d2, ds2, p2, q2, rfl, rfl, rfl, h2, r2⟩ := trodAll_cons r1
  obtain ⟨rfl, rfl, rfl⟩ := trodAll_nil r2
  obtain rfl : args = #[v0, v1, v2] := by cases args; simp_all
  obtain ⟨rfl, rfl⟩ := trodVars_none hV
  obtain ⟨a0, len0, cap0, rfl⟩ := okWide_slice Try.underlying31 (hval 0 31 v0 rfl rfl)
  obtain ⟨a1, len1, cap1, rfl⟩ := okWide_slice Try.underlying22 (hval 1 22 v1 rfl rfl)
  obtain ⟨a2, len2, cap2, rfl⟩ := okWide_slice Try.underlying22 (hval 2 22 v2 rfl rfl)
  have k0 := h0
  have k1 := h1
  have k2 := h2
  have lt0 : ∀ x ∈ p0, x.block < W.heap.size := by obtain ⟨m, hm⟩ := k0; exact DataW.trod_lt m _ _ _ hm
  have lt1 : ∀ x ∈ p1, x.block < W.heap.size := by obtain ⟨m, hm⟩ := k1; exact DataW.trod_lt m _ _ _ hm
  have lt2 : ∀ x ∈ p2, x.block < W.heap.size := by obtain ⟨m, hm⟩ := k2; exact DataW.trod_lt m _ _ _ hm
  obtain ⟨L, rfl, m0, e0⟩ : ∃ L : List Slid.Ed, L.length = len0 ∧ len0 ≤ maxLen ∧ ERow W a0 len0 (fun i => L.getD i Slid.ed0) := by
    obtain ⟨fuel, hf⟩ := h0
    exact edits_open hf
  obtain ⟨A, m1, na1, e1⟩ : ∃ A : Nat → Int, len1 ≤ maxLen ∧ (a1 = none → len1 = 0 ∧ cap1 = 0) ∧ VRow W a1 len1 (fun i => .int .i64 (A i)) := by
    obtain ⟨fuel, hf⟩ := h1
    exact ints_open hf
  obtain ⟨B, m2, na2, e2⟩ : ∃ A : Nat → Int, len2 ≤ maxLen ∧ (a2 = none → len2 = 0 ∧ cap2 = 0) ∧ VRow W a2 len2 (fun i => .int .i64 (A i)) := by
    obtain ⟨fuel, hf⟩ := h2
    exact ints_open hf
  clear hA0 hval0
  refine (law_any a0 a1 a2 cap0 cap1 cap2 len1 len2 L A B W m0 m1 m2 na1 na2 e0 e1 e2).mono fun e W' ⟨he, bel⟩ => ?_
  subst he
  exact ⟨_, rfl, _, _, _, [], _, [], hW', trodAll_mk1 (shut_bool Try.underlying4 _), (trodAll_cons_mk (Below.trod laidOut (by kernel_rfl) (of_decide_eq_true (by kernel_rfl)) k0 bel lt0) (trodAll_cons_mk (Below.trod laidOut (by kernel_rfl) (of_decide_eq_true (by kernel_rfl)) k1 bel lt1) (trodAll_cons_mk (Below.trod laidOut (by kernel_rfl) (of_decide_eq_true (by kernel_rfl)) k2 bel lt2) trodAll_mk0))), rfl, bel.frame _, fun h => by cases h⟩

theorem over : Rows.fnSlideIsIdempotentRow.holds Try.pinned (OpenSpec.ofChange Rows.fnSlideIsIdempotentSpec) :=
  OpenClaim.holds_of_wide 6 Try.f6 rfl rfl rfl rfl rfl rfl rfl ⟨rfl, rfl, rfl, rfl, rfl⟩ rfl rfl rfl rfl rfl (by kernel_rfl) Try.func6 (by kernel_rfl)
    (of_decide_eq_true (by kernel_rfl)) (by unfold Func.isWrapper; first | (rw [if_pos (by decide +kernel)]; kernel_rfl) | (rw [if_neg (by decide +kernel)]; exact ⟨rfl, rfl⟩))
    (fun os started H enc _ => lifted os started H enc)

/-- ████ THE STATEMENT ████ -/
theorem slide_is_idempotent : Rows.FnSlideIsIdempotentSaid := over
end Go.Proofs.Qxb6602961a
