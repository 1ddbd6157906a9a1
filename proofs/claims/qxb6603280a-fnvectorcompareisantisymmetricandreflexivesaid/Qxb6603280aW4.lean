/-
  THE WALK of the law (4), out of the contracts.
-/
import Derived.Test.Qxb6603280aW3
namespace Go.Proofs.Qxb6603280a
open Go.RowKit Zz

theorem compareVec' (a0 a1 : Option Addr) (c0 c1 n m : Nat) (V U : List Vec.Ent) (w : World) (hn : n ≤ 65536) (hm : m ≤ 65536) (hV1 : Hid (V.length = n)) (hU1 : Hid (U.length = m))
    (hV : PRow w a0 n (fun i => V.getD i Vec.e0)) (hU : PRow w a1 m (fun i => U.getD i Vec.e0)) :
    Calls Try.prog 12 #[.agg #[.slice a0 n c0], .agg #[.slice a1 m c1]] w fun e w' => RetOrd w (Vec.comp V U) e w' := by
  have e1 := hV1.out
  have e2 := hU1.out
  subst e1
  subst e2
  exact compareVec_any a0 a1 c0 c1 V U w hn hm hV hU

theorem list_of (n : Nat) (E : Nat → Vec.Ent) : ∃ V : List Vec.Ent, V.length = n ∧ ∀ i, i < n → V.getD i Vec.e0 = E i :=
  ⟨(List.range n).map E, by simp, fun i hi => by simp [hi]⟩

theorem PRow.congr {w : World} {a : Option Addr} {n : Nat} {E F : Nat → Vec.Ent} (h : PRow w a n E) (e : ∀ i, i < n → F i = E i) : PRow w a n F := by
  rcases h with h | ⟨b, off, h1, h2, h3⟩
  · exact .inl h
  · exact .inr ⟨b, off, h1, h2, fun i hi => by rw [e i hi]; exact h3 i hi⟩

theorem ordS_equal : ordS (false, false) = ⟨#[101, 113, 117, 97, 108]⟩ := rfl

def RetTrue (w : World) (e : Ending) (w' : World) : Prop := e = .returned (.bool true) ∧ Below w.heap.size w w'

set_option maxRecDepth 10000 in
set_option maxHeartbeats 1000000 in
theorem law_any (a0 a1 a2 a3 : Option Addr) (n0 n1 n2 n3 c0 c1 c2 c3 : Nat) (S T : Nat → ByteArray) (C D : Nat → Int) (w : World) (h0 : n0 ≤ maxLen) (h1 : n1 ≤ maxLen) (h2 : n2 ≤ maxLen) (h3 : n3 ≤ maxLen)
    (e0 : a0 = none → n0 = 0 ∧ c0 = 0) (e1 : a1 = none → n1 = 0 ∧ c1 = 0) (e2 : a2 = none → n2 = 0 ∧ c2 = 0) (e3 : a3 = none → n3 = 0 ∧ c3 = 0)
    (hS : VRow w a0 n0 (fun i => .string (S i))) (hC : VRow w a1 n1 (fun i => .int .u64 (C i))) (hT : VRow w a2 n2 (fun i => .string (T i))) (hD : VRow w a3 n3 (fun i => .int .u64 (D i))) :
    Calls Try.prog 4 #[.slice a0 n0 c0, .slice a1 n1 c1, .slice a2 n2 c2, .slice a3 n3 c3] w fun e w' => RetTrue w e w' := by
  have h14 := bytes_any a0 a1 a2 a3 n0 n1 n2 n3 c0 c1 c2 c3 S T w h0 h2 hS hT
  have M0 := hide h0
  have M1 := hide h1
  have M2 := hide h2
  have M3 := hide h3
  have E0 := hide e0
  have E1 := hide e1
  have E2 := hide e2
  have E3 := hide e3
  unfold maxLen at h0 h1 h2 h3
  clear e0 e1 e2 e3
  go_enter Try.func4, Try.ntmps4
  go_wp2_with fail
  refine h14.mono ?_
  rintro e w1 ⟨⟨b, rfl⟩, hb1⟩
  clear h14
  have S1 := hS.below hb1
  have C1 := hC.below hb1
  have T1 := hT.below hb1
  have D1 := hD.below hb1
  clear hS hC hT hD
  cases b with
  | false =>
    go_wp2
    go_ret
    exact ⟨rfl, hb1⟩
  | true =>
    by_cases t0 : 65536 < n0
    · go_wp2_with fail
      go_ret
      exact ⟨rfl, hb1⟩
    by_cases t1 : 65536 < n1
    · go_wp2_with fail
      go_ret
      exact ⟨rfl, hb1⟩
    by_cases t2 : 65536 < n2
    · go_wp2_with fail
      go_ret
      exact ⟨rfl, hb1⟩
    by_cases t3 : 65536 < n3
    · go_wp2_with fail
      go_ret
      exact ⟨rfl, hb1⟩
    go_wp2_with fail
    refine (vectorBytes_any a0 a1 n0 c0 n1 c1 0 S _ M0.out S1).mono ?_
    rintro e w2 ⟨⟨x2, rfl⟩, hb2⟩
    have hw2 : Below w.heap.size w w2 := hb1.trans (hb2.mono hb1.size)
    go_wp2_with fail
    refine (vectorBytes_any a2 a3 n2 c2 n3 c3 x2 T _ M2.out (T1.below hb2)).mono ?_
    rintro e w3 ⟨⟨x3, rfl⟩, hb3⟩
    have hw3 : Below w.heap.size w w3 := hw2.trans (hb3.mono hw2.size)
    have S3 := (S1.below hb2).below hb3
    have C3 := (C1.below hb2).below hb3
    have T3 := (T1.below hb2).below hb3
    have D3 := (D1.below hb2).below hb3
    clear S1 C1 T1 D1 hb1 hb2 hb3 hw2
    by_cases t4 : 1048576 < x3
    · go_wp2_with fail
      go_ret
      exact ⟨rfl, hw3⟩
    go_wp2_with fail
    refine (valid_any a0 a1 n0 n1 c0 c1 S C _ M0.out M1.out S3 C3).mono ?_
    rintro e w4 ⟨⟨b4, rfl, v4⟩, hb4⟩
    have hw4 : Below w.heap.size w w4 := hw3.trans (hb4.mono hw3.size)
    have S4 := S3.below hb4
    have C4 := C3.below hb4
    have T4 := T3.below hb4
    have D4 := D3.below hb4
    clear S3 C3 T3 D3 hb4 hw3
    cases b4 with
    | false =>
      clear v4
      go_wp2_with fail
      go_ret
      exact ⟨rfl, hw4⟩
    | true =>
    have v4' := v4 rfl
    subst v4'
    clear v4
    go_wp2_with fail
    refine (valid_any a2 a3 n2 n3 c2 c3 T D _ M2.out M3.out T4 D4).mono ?_
    rintro e w5 ⟨⟨b5, rfl, v5⟩, hb5⟩
    have hw5 : Below w.heap.size w w5 := hw4.trans (hb5.mono hw4.size)
    have S5 := S4.below hb5
    have C5 := C4.below hb5
    have T5 := T4.below hb5
    have D5 := D4.below hb5
    clear S4 C4 T4 D4 hb5 hw4
    cases b5 with
    | false =>
      clear v5
      go_wp2_with fail
      go_ret
      exact ⟨rfl, hw5⟩
    | true =>
    have v5' := v5 rfl
    subst v5'
    clear v5
    go_wp2_with fail
    refine (cloneStrings_any a0 n0 c0 S _ (by omega) E0.out S5).mono ?_
    rintro e w6 ⟨a6, c6, rfl, _, S6, hb6⟩
    have hw6 : Below w.heap.size w w6 := hw5.trans (hb6.mono hw5.size)
    go_wp2_with fail
    refine (cloneCounts_any a1 n0 c1 C _ (by omega) E1.out (C5.below hb6)).mono ?_
    rintro e w7 ⟨a7, c7, rfl, _, C7, hb7⟩
    have hw7 : Below w.heap.size w w7 := hw6.trans (hb7.mono hw6.size)
    have S7 := S6.below hb7
    have T7 := (T5.below hb6).below hb7
    have D7 := (D5.below hb6).below hb7
    clear S5 C5 T5 D5 S6 hb6 hb7 hw5 hw6
    go_wp2_with fail
    refine (cloneStrings_any a2 n2 c2 T _ (by omega) E2.out T7).mono ?_
    rintro e w8 ⟨a8, c8, rfl, _, T8, hb8⟩
    have hw8 : Below w.heap.size w w8 := hw7.trans (hb8.mono hw7.size)
    go_wp2_with fail
    refine (cloneCounts_any a3 n2 c3 D _ (by omega) E3.out (D7.below hb8)).mono ?_
    rintro e w9 ⟨a9, c9, rfl, _, D9, hb9⟩
    have hw9 : Below w.heap.size w w9 := hw8.trans (hb9.mono hw8.size)
    have S9 := (S7.below hb8).below hb9
    have C9 := (C7.below hb8).below hb9
    have T9 := T8.below hb9
    clear S7 C7 T7 D7 T8 hb8 hb9 hw7 hw8 E0 E1 E2 E3 M0 M1 M2 M3
    obtain ⟨V, hV1, hV2⟩ := list_of n0 (fun i => ⟨S i, C i⟩)
    obtain ⟨U, hU1, hU2⟩ := list_of n2 (fun i => ⟨T i, D i⟩)
    have HV := hide hV1
    have HU := hide hU1
    have HV2 := hide hV2
    have HU2 := hide hU2
    clear hV1 hU1 hV2 hU2
    go_wp2_with fail
    refine (newVector_any a6 a7 n0 c6 c7 S C _ (by omega) S9 C9).mono ?_
    rintro e w10 ⟨a10, c10, rfl, V10, hb10⟩
    have hw10 : Below w.heap.size w w10 := hw9.trans (hb10.mono hw9.size)
    have T10 := T9.below hb10
    have D10 := D9.below hb10
    clear S9 C9 T9 D9 hb10 hw9
    go_wp2_with fail
    have hbA : Below w10.heap.size w10 (w10.alloc (.cells #[.slice a10 n0 c10] 31)) := (Below.refl _ _).alloc (Nat.le_refl _) _
    refine (newVector_any a8 a9 n2 c8 c9 T D _ (by omega) (T10.below hbA) (D10.below hbA)).mono ?_
    rintro e w11 ⟨a11, c11, rfl, U11, hb11⟩
    have V11 := (V10.below hbA).below hb11
    have hs11 : w10.heap.size + 1 ≤ w11.heap.size := by have := hb11.size; simpa using this
    have z11 : w11.cell? ⟨w10.heap.size, 0, none⟩ = some (.slice a10 n0 c10) := (hb11.cell (p := ⟨w10.heap.size, 0, none⟩) (by simp)).trans (by simp)
    have hw11 : Below w.heap.size w w11 := (hw10.alloc hw10.size _).trans (hb11.mono (by have := hw10.size; simp; omega))
    clear T10 D10 V10 hb11 hbA
    have hbB : Below w11.heap.size w11 (w11.alloc (.cells #[.slice a11 n2 c11] 31)) := (Below.refl _ _).alloc (Nat.le_refl _) _
    have V12 := (V11.below hbB).congr (F := fun i => V.getD i Vec.e0) (fun i hi => HV2.out i hi)
    have U12 := (U11.below hbB).congr (F := fun i => U.getD i Vec.e0) (fun i hi => HU2.out i hi)
    have z12 : (w11.alloc (.cells #[.slice a11 n2 c11] 31)).cell? ⟨w10.heap.size, 0, none⟩ = some (.slice a10 n0 c10) := (hbB.cell (p := ⟨w10.heap.size, 0, none⟩) (by show w10.heap.size < _; omega)).trans z11
    have y12 : (w11.alloc (.cells #[.slice a11 n2 c11] 31)).cell? ⟨w11.heap.size, 0, none⟩ = some (.slice a11 n2 c11) := by simp
    have hw12 : Below w.heap.size w (w11.alloc (.cells #[.slice a11 n2 c11] 31)) := hw11.alloc hw11.size _
    have hs12 : w11.heap.size < (w11.alloc (.cells #[.slice a11 n2 c11] 31)).heap.size := by simp
    clear V11 U11 hbB hw11 HV2 HU2
    obtain ⟨r, hr⟩ : ∃ r, Vec.comp V U = r := ⟨_, rfl⟩
    have HR := hide hr
    clear hr
    go_wp2_with fail
    refine (compareVec' a10 a11 c10 c11 n0 n2 V U _ (by omega) (by omega) HV HU V12 U12).mono ?_
    rintro e w13 ⟨rfl, hb13⟩
    have V13 := V12.below hb13
    have U13 := U12.below hb13
    have z13 := (hb13.cell (p := ⟨w10.heap.size, 0, none⟩) (by show w10.heap.size < _; omega)).trans z12
    have y13 := (hb13.cell (p := ⟨w11.heap.size, 0, none⟩) (by exact hs12)).trans y12
    have hs13 : w11.heap.size < w13.heap.size := by have := hb13.size; omega
    have hw13 : Below w.heap.size w w13 := hw12.trans (hb13.mono hw12.size)
    clear V12 U12 z11 z12 y12 hb13 hw12 hs12
    rw [HR.out]
    go_wp2_with fail
    refine (isOrder_any r _).mono ?_
    rintro e w13' ⟨rfl, rfl⟩
    go_wp2_with fail
    refine (compareVec' a11 a10 c11 c10 n2 n0 U V _ (by omega) (by omega) HU HV U13 V13).mono ?_
    rintro e w14 ⟨rfl, hb14⟩
    have V14 := V13.below hb14
    have U14 := U13.below hb14
    have z14 := (hb14.cell (p := ⟨w10.heap.size, 0, none⟩) (by show w10.heap.size < _; omega)).trans z13
    have y14 := (hb14.cell (p := ⟨w11.heap.size, 0, none⟩) (by exact hs13)).trans y13
    have hs14 : w11.heap.size < w14.heap.size := by have := hb14.size; omega
    have hw14 := hw13.trans (hb14.mono hw13.size)
    clear V13 U13 z13 y13 hb14 hw13 hs13
    rw [Vec.comp_swap V U, HR.out]
    go_wp2_with fail
    refine (mirror_any r _).mono ?_
    rintro e w14' ⟨rfl, rfl⟩
    go_wp2_with fail
    refine (compareVec' a10 a10 c10 c10 n0 n0 V V _ (by omega) (by omega) HV HV V14 V14).mono ?_
    rintro e w15 ⟨rfl, hb15⟩
    have U15 := U14.below hb15
    have y15 := (hb15.cell (p := ⟨w11.heap.size, 0, none⟩) (by exact hs14)).trans y14
    have hw15 := hw14.trans (hb15.mono hw14.size)
    clear V14 U14 z14 y14 hb15 hw14 hs14
    rw [Vec.comp_self V, ordS_equal]
    go_wp2_with fail
    refine (compareVec' a11 a11 c11 c11 n2 n2 U U _ (by omega) (by omega) HU HU U15 U15).mono ?_
    rintro e w16 ⟨rfl, hb16⟩
    have hw16 := hw15.trans (hb16.mono hw15.size)
    clear U15 y15 hb16 hw15
    rw [Vec.comp_self U, ordS_equal]
    go_wp2
    go_ret
    exact ⟨rfl, hw16⟩
end Go.Proofs.Qxb6603280a
