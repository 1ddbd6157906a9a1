/-
  THE WALK of reindex (31, 15): the queue's index is a new one; nothing else that was there has turned.
-/
import Derived.Test.Qxb6603661aW2
namespace Go.Proofs.Qxb6603661a
open Go.RowKit Zz Ring Go.Maps

theorem law25 : Keyed Try.prog 25 := int_keyed Try.underlying25

theorem run_makeMap_hint (o : Int) (w : World) : (Instr.makeMap 59 (some (.int .i64 o))).run Try.prog w = .ok (.map (some w.heap.size)) (w.alloc (.map #[] 0)) := by
  simp [Instr.makeMap, run_underlying Try.underlying59, asInt, asIntOf, Result.andThen]

theorem grown_setCell (w : World) (a : Addr) (u : Value) : w.grownBy (w.setCell a u) (some a.block) :=
  ⟨rfl, rfl, rfl, by simp [World.setCell], fun k _ hk => Below.heap_setCell _ _ _ _ (fun e => hk (by rw [e]))⟩

theorem qc_index (v : Value) (h o : Int) (i j : Value) (a : Bool) : ∀ k, k < 5 → (if k = 3 then j else qc v h o i a k) = qc v h o j a k := by
  intro k hk
  match k, hk with
  | 0, _ => rfl
  | 1, _ => rfl
  | 2, _ => rfl
  | 3, _ => rfl
  | 4, _ => rfl

def RetX (gq : Nat) (v : Value) (h o : Int) (ar : Bool) (w : World) (e : Ending) (w' : World) : Prop := e = .returned (.tuple #[]) ∧ ∃ q, w'.rowIs gq 58 5 (qc v h o (.pointer (some q)) ar) ∧ BlkKept (fun k => k = gq) w w'

set_option maxHeartbeats 1000000 in
theorem reindex_any (gq gb m n : Nat) (h o : Int) (p : Option Addr) (ar : Bool) (M : Nat → Mk) (w : World) (hn : n ≤ 32768) (hm : m ≤ n) (hne : gb ≠ gq)
    (hq : w.rowIs gq 58 5 (qc (.slice (some ⟨gb, 0, none⟩) m n) h o (.pointer p) ar)) (hb : w.rowIs gb 55 (n * 6) (mc M)) (hwf : ∀ i, i < m → (Lit.int .u64 (M i).s).wf = true) :
    Calls Try.prog 31 #[.pointer (some ⟨gq, 0, none⟩)] w fun e w' => RetX gq (.slice (some ⟨gb, 0, none⟩) m n) h o ar w e w' := by
  have hmm := run_makeMap_hint
  have HW := hide hwf
  clear hwf
  have hqlt := hq.lt
  have hblt := hb.lt
  have q0 : w.cell? ⟨gq, 0, none⟩ = some (.slice (some ⟨gb, 0, none⟩) m n) := hq.cell (i := 0) (by omega)
  have q2 : w.cell? ⟨gq, 2, none⟩ = some (.int .i64 o) := hq.cell (i := 2) (by omega)
  have q3 : w.cell? ⟨gq, 3, none⟩ = some (.pointer p) := hq.cell (i := 3) (by omega)
  have f3 := hq.frozen 3
  have W1 : Hid ((((w.setCell ⟨gq, 3, none⟩ (.pointer (some ⟨w.heap.size + 1, 0, none⟩))).alloc (.map #[] 0)).alloc (.cells #[.map (some w.heap.size), .int .i64 0] 61)).rowIs gq 58 5 (qc (.slice (some ⟨gb, 0, none⟩) m n) h o (.pointer (some ⟨w.heap.size + 1, 0, none⟩)) ar)) :=
    (((hq.set 3 _).congr (qc_index _ _ _ _ _ _)).alloc _).alloc _
  have W2 : Hid (BlkKept (fun k => k = gq) w (((w.setCell ⟨gq, 3, none⟩ (.pointer (some ⟨w.heap.size + 1, 0, none⟩))).alloc (.map #[] 0)).alloc (.cells #[.map (some w.heap.size), .int .i64 0] 61))) :=
    (((BlkKept.refl (fun k => k = gq) w).setCell (p := ⟨gq, 3, none⟩) (.inl rfl) _).alloc _).alloc _
  have W3 : Hid ((((w.setCell ⟨gq, 3, none⟩ (.pointer (some ⟨w.heap.size + 1, 0, none⟩))).alloc (.map #[] 0)).alloc (.cells #[.map (some w.heap.size), .int .i64 0] 61)).ownsMap Try.prog 25 (plainElem (H := Unit) Try.prog 3) w.heap.size 0 (.map [])) := by
    have := (World.ownsMap_made (w.setCell ⟨gq, 3, none⟩ (.pointer (some ⟨w.heap.size + 1, 0, none⟩))) Try.prog 25 (plainElem (H := Unit) Try.prog 3)).alloc (.cells #[.map (some w.heap.size), .int .i64 0] 61)
    have e : (w.setCell ⟨gq, 3, none⟩ (.pointer (some ⟨w.heap.size + 1, 0, none⟩))).heap.size = w.heap.size := by simp [World.setCell]
    rw [e] at this
    exact this
  have W4 : Hid ((((w.setCell ⟨gq, 3, none⟩ (.pointer (some ⟨w.heap.size + 1, 0, none⟩))).alloc (.map #[] 0)).alloc (.cells #[.map (some w.heap.size), .int .i64 0] 61)).cell? ⟨w.heap.size + 1, 0, none⟩ = some (.map (some w.heap.size))) := by
    have := World.cell?_alloc_new ((w.setCell ⟨gq, 3, none⟩ (.pointer (some ⟨w.heap.size + 1, 0, none⟩))).alloc (.map #[] 0)) #[.map (some w.heap.size), .int .i64 0] 61 0
    have e : ((w.setCell ⟨gq, 3, none⟩ (.pointer (some ⟨w.heap.size + 1, 0, none⟩))).alloc (.map #[] 0)).heap.size = w.heap.size + 1 := by simp [World.setCell]
    rw [e] at this
    exact this
  go_enter Try.func31, Try.ntmps31
  go_wp2
  clear hmm q0 q2 q3 f3
  go_loopw [19] (fun x wr => ∃ (k : Nat) (D : DataW Unit), k ≤ m ∧ x = .int .i64 k ∧ wr.ownsMap Try.prog 25 (plainElem (H := Unit) Try.prog 3) w.heap.size k D ∧ wr.cell? ⟨w.heap.size + 1, 0, none⟩ = some (.map (some w.heap.size)) ∧
    wr.rowIs gq 58 5 (qc (.slice (some ⟨gb, 0, none⟩) m n) h o (.pointer (some ⟨w.heap.size + 1, 0, none⟩)) ar) ∧ BlkKept (fun k => k = gq) w wr) (fun x _ => m - (intOf x).toNat)
  case atStart => exact ⟨0, _, Nat.zero_le _, rfl, W3.out, W4.out, W1.out, W2.out⟩
  case round =>
    obtain ⟨k, D, hk, rfl, hown, hix, hqr, hT⟩ := hrel
    clear W1 W2 W3 W4
    by_cases hlt : k < m
    · have hbr := hb.of_block (w' := wr) (hT.block gb hblt hne)
      have Z := six_of_row hbr (show k < n by omega)
      have hwk := HW.out k hlt
      generalize M k = x at *
      obtain ⟨xs, xk, xa, xd⟩ := x
      have z0 : wr.cell? ⟨gb, k * 6, none⟩ = some (.int .u64 xs) := Z.c0
      have z1 : wr.cell? ⟨gb, k * 6 + 1, none⟩ = some (.int .u64 xk) := Z.c1
      have z2 : wr.cell? ⟨gb, k * 6 + 2, none⟩ = some (.string xa) := Z.c2
      have z3 : wr.cell? ⟨gb, k * 6 + 3, none⟩ = some .nilFunc := Z.c3
      have z4 : wr.cell? ⟨gb, k * 6 + 4, none⟩ = some .nilFunc := Z.c4
      have z5 : wr.cell? ⟨gb, k * 6 + 5, none⟩ = some (.int .i64 xd) := Z.c5
      have y3 : wr.cell? ⟨gq, 3, none⟩ = some (.pointer (some ⟨w.heap.size + 1, 0, none⟩)) := hqr.cell (i := 3) (by omega)
      have hsz : w.heap.size + 1 < wr.heap.size := World.block_lt_of_cell? _ _ hix
      have T1 := hT.alloc (.cells #[.int .u64 xs, .int .u64 xk, .string xa, .nilFunc, .nilFunc, .int .i64 xd] 55)
      by_cases hs : xs = 0
      · have hs' : (xs != 0) = false := by simp [hs]
        have A1 := hide (hown.alloc (.cells #[.int .u64 xs, .int .u64 xk, .string xa, .nilFunc, .nilFunc, .int .i64 xd] 55))
        have A2 := hide (Lib.cell?_alloc_some (.cells #[.int .u64 xs, .int .u64 xk, .string xa, .nilFunc, .nilFunc, .int .i64 xd] 55) hix)
        have A3 := hide (hqr.alloc (.cells #[.int .u64 xs, .int .u64 xk, .string xa, .nilFunc, .nilFunc, .int .i64 xd] 55))
        clear hs hown Z hbr hqr
        go_wp2
        go_roundw
        case rel => exact ⟨k + 1, D, by omega, by go_num, A1.out.mono (by omega), A2.out, A3.out, T1⟩
        case measure => simp [intOf]; omega
      · have hs' : (xs != 0) = true := by simp [hs]
        obtain ⟨w2, hrun, hown2, hg2⟩ := ((hown.alloc (.cells #[.int .u64 xs, .int .u64 xk, .string xa, .nilFunc, .nilFunc, .int .i64 xd] 55)).drew).update law25 Try.underlying59 (by unfold maxLen; omega) (key := .int .u64 xs) (val := .int .i64 k) (keyOf_int_mk Try.underlying25 hwk) (plainElem_int Try.underlying3 (WalkArith.wf_i64 (by omega)))
        have A2 := hide ((World.grownBy.cell hg2 (Lib.cell?_alloc_some (.cells #[.int .u64 xs, .int .u64 xk, .string xa, .nilFunc, .nilFunc, .int .i64 xd] 55) hix) (by simp)))
        have A3 := hide (((hqr.alloc (.cells #[.int .u64 xs, .int .u64 xk, .string xa, .nilFunc, .nilFunc, .int .i64 xd] 55)).drew).of_block (w' := w2) (hg2.block gq (by have := hT.size; simp; omega) (by simp; omega)))
        have T2 := T1.drew.grown hg2 (fun j hj => .inr (by simp at hj; omega))
        have H2 := hide hown2
        have y3' : ∀ o, (wr.alloc o).cell? ⟨gq, 3, none⟩ = some (.pointer (some ⟨w.heap.size + 1, 0, none⟩)) := fun o => Lib.cell?_alloc_some o y3
        have hix' : ∀ o, (wr.alloc o).cell? ⟨w.heap.size + 1, 0, none⟩ = some (.map (some w.heap.size)) := fun o => Lib.cell?_alloc_some o hix
        clear hs hown Z hbr hqr hown2 hg2 hwk
        go_wp2
        go_region
        go_wp2
        go_roundw
        case rel => exact ⟨k + 1, _, by omega, by go_num, H2.out, A2.out, A3.out, T2⟩
        case measure => simp [intOf]; omega
    · go_wp2
      go_end0
      exact ⟨rfl, _, hqr, hT⟩

theorem zzreindex_any (gq gb m n : Nat) (h o : Int) (p : Option Addr) (ar : Bool) (M : Nat → Mk) (w : World) (hn : n ≤ 32768) (hm : m ≤ n) (hne : gb ≠ gq)
    (hq : w.rowIs gq 58 5 (qc (.slice (some ⟨gb, 0, none⟩) m n) h o (.pointer p) ar)) (hb : w.rowIs gb 55 (n * 6) (mc M)) (hwf : ∀ i, i < m → (Lit.int .u64 (M i).s).wf = true) :
    Calls Try.prog 15 #[.pointer (some ⟨gq, 0, none⟩)] w fun e w' => RetX gq (.slice (some ⟨gb, 0, none⟩) m n) h o ar w e w' := by
  have h31 := reindex_any gq gb m n h o p ar M w hn hm hne hq hb hwf
  go_enter Try.func15, Try.ntmps15
  go_wp2_with fail
  refine h31.mono ?_
  rintro e w' ⟨rfl, q, h1, h2⟩
  go_wp2
  go_end0
  exact ⟨rfl, q, h1, h2⟩
end Go.Proofs.Qxb6603661a
