/-
  THE WALK of the law (6), out of the contracts.
-/
import Derived.Test.Qxb6602961aW2
import Derived.Test.Qxb6602961aW3
namespace Go.Proofs.Qxb6602961a
open Go.RowKit Zz

theorem zzslide_any (a0 a1 a2 : Option Addr) (c0 c1 c2 la lb : Nat) (L T : List Slid.Ed) (A B : Nat → Int) (w : World) (hn : L.length ≤ 8192) (hla : la ≤ 32768) (hlb : lb ≤ 32768)
    (hE : ERow w a0 L.length (fun i => L.getD i Slid.ed0)) (hA : VRow w a1 la (fun i => .int .i64 (A i))) (hB : VRow w a2 lb (fun i => .int .i64 (B i))) (hC : Slid.Chain la lb 0 0 L) (hT : Hid (Slid.slide la A B L = T)) :
    Calls Try.prog 16 #[.slice a0 L.length c0, .slice a1 la c1, .slice a2 lb c2] w fun e w' => RetE w T.length (fun i => T.getD i Slid.ed0) e w' := by
  have h22 := slide_any a0 a1 a2 c0 c1 c2 la lb L A B w hn hla hlb hE hA hB hC
  rw [hT.out] at h22
  have H := Hid.out h22
  go_enter Try.func16, Try.ntmps16
  go_wp2_with fail
  refine h22.mono ?_
  rintro e w' ⟨a', c', rfl, hrow, hb⟩
  go_wp2
  go_ret
  exact ⟨a', c', rfl, hrow, hb⟩

def RetTrue (w : World) (e : Ending) (w' : World) : Prop := e = .returned (.bool true) ∧ Below w.heap.size w w'

set_option maxRecDepth 10000 in
set_option maxHeartbeats 1000000 in
theorem law_any (a0 a1 a2 : Option Addr) (c0 c1 c2 la lb : Nat) (L : List Slid.Ed) (A B : Nat → Int) (w : World) (hn : L.length ≤ maxLen) (hla : la ≤ maxLen) (hlb : lb ≤ maxLen)
    (n1 : a1 = none → la = 0 ∧ c1 = 0) (n2 : a2 = none → lb = 0 ∧ c2 = 0)
    (hE : ERow w a0 L.length (fun i => L.getD i Slid.ed0)) (hA : VRow w a1 la (fun i => .int .i64 (A i))) (hB : VRow w a2 lb (fun i => .int .i64 (B i))) :
    Calls Try.prog 6 #[.slice a0 L.length c0, .slice a1 la c1, .slice a2 lb c2] w fun e w' => RetTrue w e w' := by
  have h18 := bytes_any a0 a1 a2 L.length la lb c0 c1 c2 w hn hla hlb
  have HL : Hid (L.length ≤ maxLen ∧ la ≤ maxLen ∧ lb ≤ maxLen) := ⟨hn, hla, hlb⟩
  unfold maxLen at hn hla hlb
  have N1 : Hid (a1 = none → la = 0 ∧ c1 = 0) := n1
  have N2 : Hid (a2 = none → lb = 0 ∧ c2 = 0) := n2
  clear n1 n2
  go_enter Try.func6, Try.ntmps6
  go_wp2_with fail
  refine h18.mono ?_
  rintro e w' ⟨⟨b, rfl⟩, rfl⟩
  clear h18
  cases b with
  | false =>
    go_wp2
    go_ret
    exact ⟨rfl, Below.refl _ _⟩
  | true =>
    by_cases t1 : 8192 < L.length
    · go_wp2_with fail
      go_ret
      exact ⟨rfl, Below.refl _ _⟩
    by_cases t2 : 32768 < la
    · go_wp2_with fail
      go_ret
      exact ⟨rfl, Below.refl _ _⟩
    by_cases t3 : 32768 < lb
    · go_wp2_with fail
      go_ret
      exact ⟨rfl, Below.refl _ _⟩
    go_wp2_with fail
    refine (toEdits_any a0 L.length c0 _ _ (by omega) hE).mono ?_
    rintro e w1 ⟨a3, c3, rfl, hE1, hb1⟩
    go_wp2_with fail
    refine (copyInts_any a1 la c1 A _ (by omega) N1.out (hA.below hb1)).mono ?_
    rintro e w2 ⟨a4, c4, rfl, _, hA2, hb2⟩
    go_wp2_with fail
    refine (copyInts_any a2 lb c2 B _ (by omega) N2.out ((hB.below hb1).below hb2)).mono ?_
    rintro e w3 ⟨a5, c5, rfl, _, hB3, hb3⟩
    have hE3 := (hE1.below hb2).below hb3
    have hA3 := hA2.below hb3
    have hbw3 : Below w'.heap.size w' w3 := (hb1.trans (hb2.mono hb1.size)).trans (hb3.mono (Nat.le_trans hb1.size hb2.size))
    clear hE hA hB hE1 hA2 hb1 hb2 hb3 N1 N2
    go_wp2_with fail
    refine (valid_any a3 a4 a5 c3 c4 c5 la lb L A B _ (by omega) (by omega) (by omega) hE3 hA3 hB3).mono ?_
    rintro e w4 ⟨b, rfl, hval, hb4⟩
    have hbw4 : Below w'.heap.size w' w4 := hbw3.trans (hb4.mono hbw3.size)
    cases b with
    | false =>
      clear hval
      go_wp2_with fail
      go_ret
      exact ⟨rfl, hbw4⟩
    | true =>
      have hC := hval rfl
      clear hval
      obtain ⟨S, hS⟩ : ∃ S, Slid.slide la A B L = S := ⟨_, rfl⟩
      have h1 := Slid.slide_out (A := A) (B := B) hC
      have h2 := Slid.slide_slide (A := A) (B := B) hC
      rw [hS] at h1 h2
      obtain ⟨hCS, _, hlen⟩ := h1
      have HS : Hid (Slid.slide la A B L = S) := hS
      have HSS : Hid (Slid.slide la A B S = S) := h2
      clear hS h2
      have hE4 := hE3.below hb4
      have hA4 := hA3.below hb4
      have hB4 := hB3.below hb4
      clear hE3 hA3 hB3 hbw3 hb4
      go_wp2_with fail
      refine (zzslide_any a3 a4 a5 c3 c4 c5 la lb L S A B _ (by omega) (by omega) (by omega) hE4 hA4 hB4 hC HS).mono ?_
      rintro e w5 ⟨a6, c6, rfl, hS5, hb5⟩
      have hA5 := hA4.below hb5
      have hB5 := hB4.below hb5
      have hbw5 : Below w'.heap.size w' w5 := hbw4.trans (hb5.mono hbw4.size)
      clear hE4 hA4 hB4 hC HS hbw4 hb5
      go_wp2_with fail
      refine (zzslide_any a6 a4 a5 c6 c4 c5 la lb S S A B _ (by omega) (by omega) (by omega) hS5 hA5 hB5 hCS HSS).mono ?_
      rintro e w6 ⟨a7, c7, rfl, hS7, hb6⟩
      have hS6 := hS5.below hb6
      have hbw6 : Below w'.heap.size w' w6 := hbw5.trans (hb6.mono hbw5.size)
      clear hA5 hB5 hCS HSS hbw5 hb6 hS5
      go_wp2
      go_loopw [10] (fun x wr => ∃ k : Nat, x = .int .i64 k ∧ k ≤ S.length ∧ Below w6.heap.size w6 wr) (fun x _ => S.length - (intOf x).toNat)
      case atStart => exact ⟨0, rfl, Nat.zero_le _, Below.refl _ _⟩
      case round =>
        obtain ⟨k, rfl, hk, hbr⟩ := hrel
        by_cases hlt : k < S.length
        · obtain ⟨x1, y1, rfl, s1, m1⟩ := hS6.cell hlt
          obtain ⟨x2, y2, rfl, s2, m2⟩ := hS7.cell hlt
          obtain ⟨p0, p1, p2, p3⟩ := m1 k hlt
          obtain ⟨q0, q1, q2, q3⟩ := m2 k hlt
          generalize S.getD k Slid.ed0 = e at *
          have f0 := (hbr.cell (p := ⟨x1, y1 + k * 4, none⟩) s1).trans p0
          have f1 := (hbr.cell (p := ⟨x1, y1 + k * 4 + 1, none⟩) s1).trans p1
          have f2 := (hbr.cell (p := ⟨x1, y1 + k * 4 + 2, none⟩) s1).trans p2
          have f3 := (hbr.cell (p := ⟨x1, y1 + k * 4 + 3, none⟩) s1).trans p3
          have g0 := (hbr.cell (p := ⟨x2, y2 + k * 4, none⟩) s2).trans q0
          have g1 := (hbr.cell (p := ⟨x2, y2 + k * 4 + 1, none⟩) s2).trans q1
          have g2 := (hbr.cell (p := ⟨x2, y2 + k * 4 + 2, none⟩) s2).trans q2
          have g3 := (hbr.cell (p := ⟨x2, y2 + k * 4 + 3, none⟩) s2).trans q3
          have hki : (k : Int) < (S.length : Int) := by omega
          clear m1 m2 p0 p1 p2 p3 q0 q1 q2 q3 hS6 hS7
          go_wp2_with fail
          go_quiet (fail)
          go_wp2
          go_roundw
          case rel => exact ⟨k + 1, by go_num, by omega, below_drewN hbr _⟩
          case measure => simp [intOf]; omega
        · go_wp2
          go_ret
          exact ⟨rfl, hbw6.trans (hbr.mono hbw6.size)⟩
end Go.Proofs.Qxb6602961a
