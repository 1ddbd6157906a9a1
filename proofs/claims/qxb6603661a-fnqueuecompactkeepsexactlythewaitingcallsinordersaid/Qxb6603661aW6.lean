/-
  THE WALK of the law (5), out of the contracts: a queue with an index.
-/
import Derived.Test.Qxb6603661aW5
namespace Go.Proofs.Qxb6603661a
open Go.RowKit Zz Ring Go.Maps

set_option maxRecDepth 10000 in
set_option maxHeartbeats 4000000 in
theorem law_true (a0 a1 a2 a3 : Option Addr) (n0 n1 n2 n3 c0 c1 c2 c3 : Nat) (hd op : Int) (ar : Bool) (S D K : Nat → Int) (A : Nat → ByteArray) (w : World)
    (h0 : n0 ≤ maxLen) (h1 : n1 ≤ maxLen) (h2 : n2 ≤ maxLen) (h3 : n3 ≤ maxLen)
    (e0 : a0 = none → n0 = 0 ∧ c0 = 0) (e1 : a1 = none → n1 = 0 ∧ c1 = 0) (e2 : a2 = none → n2 = 0 ∧ c2 = 0) (e3 : a3 = none → n3 = 0 ∧ c3 = 0)
    (hS : VRow w a0 n0 (fun i => .int .u64 (S i))) (hD : VRow w a1 n1 (fun i => .int .i64 (D i))) (hK : VRow w a2 n2 (fun i => .int .u64 (K i))) (hA : VRow w a3 n3 (fun i => .string (A i)))
    (hwf : ∀ i, i < n0 → (Lit.int .u64 (S i)).wf = true) :
    Calls Try.prog 5 #[.slice a0 n0 c0, .slice a1 n1 c1, .slice a2 n2 c2, .slice a3 n3 c3, .int .i64 hd, .int .i64 op, .bool true, .bool ar] w fun e w' => RetTrue w e w' := by
  have h11 := bytes_any a0 a1 a2 a3 n0 n1 n2 n3 c0 c1 c2 c3 hd op true ar A w h3 hA
  have E0 := hide e0
  have E1 := hide e1
  have E2 := hide e2
  have E3 := hide e3
  have HW := hide hwf
  unfold maxLen at h0 h1 h2 h3
  clear e0 e1 e2 e3 hwf
  go_enter Try.func5, Try.ntmps5
  go_wp2_with fail
  refine h11.mono ?_
  rintro e w1 ⟨⟨b, rfl⟩, hb1⟩
  clear h11
  have S1 := hS.below hb1
  have D1 := hD.below hb1
  have K1 := hK.below hb1
  have A1 := hA.below hb1
  clear hS hD hK hA
  cases b with
  | false =>
    go_wp2
    go_ret
    exact ⟨rfl, hb1⟩
  | true =>
  by_cases t0 : 32768 < n0
  · go_wp2_with fail
    go_ret
    exact ⟨rfl, hb1⟩
  by_cases t1 : 32768 < n1
  · go_wp2_with fail
    go_ret
    exact ⟨rfl, hb1⟩
  by_cases t2 : 32768 < n2
  · go_wp2_with fail
    go_ret
    exact ⟨rfl, hb1⟩
  by_cases t3 : 32768 < n3
  · go_wp2_with fail
    go_ret
    exact ⟨rfl, hb1⟩
  go_wp2_with fail
  go_loop [17, 18] (fun z i => ∃ (k : Nat) (y : Int), k ≤ n3 ∧ i = .int .i64 k ∧ z = .int .i64 y) (fun _ i => n3 - (intOf i).toNat)
  case atStart => exact ⟨0, _, Nat.zero_le _, rfl, rfl⟩
  case round =>
    obtain ⟨k, y, hk, rfl, rfl⟩ := hrel
    by_cases hlt : k < n3
    · obtain ⟨b, off, rfl, hbs, hcell⟩ := A1.cell hlt
      have g0 := hcell k hlt
      clear hcell S1 D1 K1 A1
      go_wp2
      · go_ret
        exact ⟨rfl, hb1⟩
      · go_round
        case rel => exact ⟨k + 1, _, by omega, by go_num, rfl⟩
        case measure => simp [intOf]; omega
    · by_cases u1 : n1 = n0
      · subst u1
        by_cases u2 : n2 = n1
        · subst u2
          by_cases u3 : n3 = n2
          · subst u3
            by_cases v1 : hd < 0
            · go_wp2_with fail
              go_ret
              exact ⟨rfl, hb1⟩
            by_cases v2 : (n3 : Int) < hd
            · go_wp2_with fail
              go_ret
              exact ⟨rfl, hb1⟩
            obtain ⟨hh, rfl⟩ := Int.eq_ofNat_of_zero_le (show 0 ≤ hd by omega)
            have v3 : hh ≤ n3 := by omega
            obtain ⟨L, hL1, hL2⟩ : ∃ L : List Mk, L.length = n3 ∧ ∀ i, i < n3 → L.getD i zm = ⟨S i, K i, A i, D i⟩ := ⟨(List.range n3).map fun i => ⟨S i, K i, A i, D i⟩, by simp, fun i hi => by simp [hi]⟩
            have S2 := vrow_congr S1 (U := fun i => .int .u64 (L.getD i zm).s) (fun i hi => by rw [hL2 i hi])
            have D2 := vrow_congr D1 (U := fun i => .int .i64 (L.getD i zm).d) (fun i hi => by rw [hL2 i hi])
            have K2 := vrow_congr K1 (U := fun i => .int .u64 (L.getD i zm).k) (fun i hi => by rw [hL2 i hi])
            have A2 := vrow_congr A1 (U := fun i => .string (L.getD i zm).a) (fun i hi => by rw [hL2 i hi])
            have HW2 : Hid (∀ i, i < n3 → (Lit.int .u64 (L.getD i zm).s).wf = true) := fun i hi => by rw [hL2 i hi]; exact HW.out i hi
            have HL := hide hL1
            clear hL1 hL2 S1 D1 K1 A1 HW
            go_wp2_with fail
            go_loop [20] (fun i => ∃ k : Nat, k ≤ hh ∧ i = .int .i64 k ∧ Hid (∀ j, j < k → (L.getD j zm).s = 0)) (fun i => hh - (intOf i).toNat)
            case atStart => exact ⟨0, Nat.zero_le _, rfl, fun j hj => absurd hj (Nat.not_lt_zero _)⟩
            case round =>
              obtain ⟨k2, hk2, rfl, HZ⟩ := hrel
              by_cases hlt2 : k2 < hh
              · obtain ⟨b, off, rfl, hbs, hcell⟩ := S2.cell (show k2 < n3 by omega)
                have g0 := hcell k2 (by omega)
                by_cases hz : (L.getD k2 zm).s = 0
                · have HZ2 : Hid (∀ j, j < k2 + 1 → (L.getD j zm).s = 0) := fun j hj => by
                    by_cases e : j = k2
                    · subst e; exact hz
                    · exact HZ.out j (by omega)
                  have hz' : ((L.getD k2 zm).s != 0) = false := by simp only [hz]; rfl
                  generalize (L.getD k2 zm).s = x at *
                  clear hcell S2 D2 K2 A2 hz HZ
                  go_wp2_with fail
                  go_round
                  case rel => exact ⟨k2 + 1, by omega, by go_num, HZ2⟩
                  case measure => simp [intOf]; omega
                · have hz' : ((L.getD k2 zm).s != 0) = true := by rw [bne_iff_ne]; exact hz
                  generalize (L.getD k2 zm).s = x at *
                  clear hcell S2 D2 K2 A2 hz HZ
                  go_wp2_with fail
                  go_ret
                  exact ⟨rfl, hb1⟩
              · have HZ2 : Hid (∀ j, j < hh → (L.getD j zm).s = 0) := fun j hj => HZ.out j (by omega)
                clear HZ
                go_wp2_with fail
                go_loop [21, 22] (fun c i => ∃ k : Nat, k ≤ n3 ∧ i = .int .i64 k ∧ c = .int .i64 (cnt L k)) (fun _ i => n3 - (intOf i).toNat)
                case atStart => exact ⟨0, Nat.zero_le _, rfl, by rw [cnt_zero]; rfl⟩
                case round =>
                  obtain ⟨k3, hk3, rfl, rfl⟩ := hrel
                  by_cases hlt3 : k3 < n3
                  · obtain ⟨b, off, rfl, hbs, hcell⟩ := S2.cell hlt3
                    have g0 := hcell k3 hlt3
                    have hcl := cnt_le L k3
                    by_cases hz : (L.getD k3 zm).s = 0
                    · have HC := hide (cnt_no (L := L) (i := k3) (by rw [HL.out]; exact hlt3) hz)
                      have hz' : ((L.getD k3 zm).s != 0) = false := by simp only [hz]; rfl
                      generalize (L.getD k3 zm).s = x at *
                      clear hcell S2 D2 K2 A2 hz
                      go_wp2_with fail
                      go_round
                      case rel => exact ⟨k3 + 1, by omega, by go_num, by rw [HC.out]⟩
                      case measure => simp [intOf]; omega
                    · have HC := hide (cnt_yes (L := L) (i := k3) (by rw [HL.out]; exact hlt3) hz)
                      have hz' : ((L.getD k3 zm).s != 0) = true := by rw [bne_iff_ne]; exact hz
                      generalize (L.getD k3 zm).s = x at *
                      clear hcell S2 D2 K2 A2 hz
                      go_wp2_with fail
                      go_round
                      case rel => exact ⟨k3 + 1, by omega, by go_num, by rw [HC.out]; go_num⟩
                      case measure => simp [intOf]; omega
                  · obtain rfl : k3 = n3 := by omega
                    have HKL := hide (kept_len (L := L) (h := hh) HZ2.out (by rw [HL.out]; exact v3))
                    rw [HL.out] at HKL
                    have hcl := cnt_le L k3
                    generalize cnt L k3 = m at *
                    by_cases w0 : op = m
                    · subst w0
                      go_wp2_with fail
                      refine (cloneU64_any a0 k3 c0 _ _ (by omega) E0.out S2).mono ?_
                      rintro e w2 ⟨a4, c4, rfl, _, S3, hb2⟩
                      have hw2 : Below w.heap.size w w2 := hb1.trans (hb2.mono hb1.size)
                      go_wp2_with fail
                      refine (cloneI64_any a1 k3 c1 _ _ (by omega) E1.out (D2.below hb2)).mono ?_
                      rintro e w3 ⟨a5, c5, rfl, _, D3, hb3⟩
                      have hw3 : Below w.heap.size w w3 := hw2.trans (hb3.mono hw2.size)
                      go_wp2_with fail
                      refine (cloneU64_any a2 k3 c2 _ _ (by omega) E2.out ((K2.below hb2).below hb3)).mono ?_
                      rintro e w4 ⟨a6, c6, rfl, _, K3, hb4⟩
                      have hw4 : Below w.heap.size w w4 := hw3.trans (hb4.mono hw3.size)
                      go_wp2_with fail
                      refine (cloneStr_any a3 k3 c3 _ _ (by omega) E3.out (((A2.below hb2).below hb3).below hb4)).mono ?_
                      rintro e w5 ⟨a7, c7, rfl, _, A5, hb5⟩
                      have hw5 : Below w.heap.size w w5 := hw4.trans (hb5.mono hw4.size)
                      have S5 := ((S3.below hb3).below hb4).below hb5
                      have D5 := (D3.below hb4).below hb5
                      have K5 := K3.below hb5
                      clear S2 D2 K2 A2 S3 D3 K3 hb1 hb2 hb3 hb4 hb5 hw2 hw3 hw4 E0 E1 E2 E3
                      go_wp2_with fail
                      refine (newQueue_any a4 a5 a6 a7 k3 c4 c5 c6 c7 hh m ar (fun i => L.getD i zm) _ (by omega) S5 D5 K5 A5).mono ?_
                      rintro e w6 ⟨gb, gq, rfl, hgb, hgq, hne, hrb, hrq, hb6⟩
                      go_wp2_with fail
                      refine (zzreindex_any gq gb k3 k3 hh m none ar (fun i => L.getD i zm) _ (by omega) (by omega) hne hrq hrb HW2.out).mono ?_
                      rintro e w7 ⟨rfl, q, hrq7, hT7⟩
                      have hrb7 := hrb.of_block (w' := w7) (hT7.block gb hrb.lt hne)
                      have hb7 : Below w5.heap.size w5 w7 := hb6.trans (hT7.below (fun k hk => by rw [hk]; exact hgq) hb6.size)
                      clear hrb hrq hb6 hT7
                      obtain ⟨p, hpi, hrq7⟩ : ∃ p : Option Addr, p.isSome = true ∧ w7.rowIs gq 58 5 (qc (.slice (some ⟨gb, 0, none⟩) k3 k3) hh m (.pointer p) ar) := ⟨some q, rfl, hrq7⟩
                      go_wp2_with fail
                      refine (qbuf_any gq (some ⟨gb, 0, none⟩) k3 k3 _ (hrq7.cell (i := 0) (by omega))).mono ?_
                      rintro e w8 ⟨rfl, rfl⟩
                      go_wp2_with fail
                      refine (zzcompact_any gq gb k3 hh m p ar L _ HL.out (by omega) v3 hne hrq7 hrb7 HW2.out).mono ?_
                      rintro e w9 ⟨rfl, p', hp', hrq9, hrb9, hT9⟩
                      have HLies := Lies.start L hh
                      have HWt := hide (fun i => kept_waits (L := L) (h := hh) (i := i))
                      rw [HKL.out] at hrq9 HWt
                      obtain ⟨Q, hQ⟩ : ∃ Q, (L.drop hh).filter waits = Q := ⟨_, rfl⟩
                      rw [hQ] at HLies HWt HKL hrb9
                      have hb9 : Below w5.heap.size w5 w9 := hb7.trans (hT9.below (fun k hk => by rcases hk with rfl | rfl; exact hgq; exact hgb) hb7.size)
                      have G9 := mrow_of_row (m := m) (N := fun i => Q.getD i zm) hrb9 hcl (fun _ _ => rfl)
                      have O9 := mrow_of_row (m := k3) (N := fun i => Q.getD i zm) hrb9 (Nat.le_refl _) (fun _ _ => rfl)
                      have S9 := S5.below hb9
                      have D9 := D5.below hb9
                      have K9 := K5.below hb9
                      have A9 := A5.below hb9
                      have hw9 : Below w.heap.size w w9 := hw5.trans (hb9.mono hw5.size)
                      have HX : Hid (p'.isSome = true) := hp'.trans hpi
                      have y0 := hide (hrq9.cell (i := 0) (by omega))
                      have y1 := hide (hrq9.cell (i := 1) (by omega))
                      have y2 := hide (hrq9.cell (i := 2) (by omega))
                      have y3 := hide (hrq9.cell (i := 3) (by omega))
                      have y4 := hide (hrq9.cell (i := 4) (by omega))
                      clear hQ hb7 hb9 hT9 hrb9 hrq9 hrb7 hrq7 hp' hpi S5 D5 K5 A5 hgb hgq HW2 HZ2
                      go_wp2_with fail
                      refine (qhead_any gq 0 _ y1.out).mono ?_
                      rintro e w10 ⟨rfl, rfl⟩
                      go_wp2_with fail
                      refine (qopen_any gq m _ y2.out).mono ?_
                      rintro e w10 ⟨rfl, rfl⟩
                      go_wp2_with fail
                      refine (qarmed_any gq ar _ y4.out).mono ?_
                      rintro e w10 ⟨rfl, rfl⟩
                      have h21 := qindex_any gq p' _ y3.out
                      rw [HX.out] at h21
                      go_wp2_with fail
                      refine h21.mono ?_
                      clear h21
                      rintro e w10 ⟨rfl, rfl⟩
                      go_wp2_with fail
                      refine (qbuf_any gq (some ⟨gb, 0, none⟩) m k3 _ y0.out).mono ?_
                      rintro e w10 ⟨rfl, rfl⟩
                      clear y0 y1 y2 y3 y4 HX
                      go_wp2_with fail
                      refine (madeSeqs_any (some ⟨gb, 0, none⟩) m k3 _ _ (by omega) G9).mono ?_
                      rintro e w11 ⟨a8, c8, rfl, _, gs1, hb11⟩
                      have hw11 := hw9.trans (hb11.mono hw9.size)
                      go_wp2_with fail
                      refine (madeDeadlines_any (some ⟨gb, 0, none⟩) m k3 _ _ (by omega) (G9.below hb11)).mono ?_
                      rintro e w12 ⟨a9, c9, rfl, _, gd1, hb12⟩
                      have hw12 := hw11.trans (hb12.mono hw11.size)
                      go_wp2_with fail
                      refine (madeKeys_any (some ⟨gb, 0, none⟩) m k3 _ _ (by omega) ((G9.below hb11).below hb12)).mono ?_
                      rintro e w13 ⟨a10, c10, rfl, _, gk1, hb13⟩
                      have hw13 := hw12.trans (hb13.mono hw12.size)
                      go_wp2_with fail
                      refine (madeAddrs_any (some ⟨gb, 0, none⟩) m k3 _ _ (by omega) (((G9.below hb11).below hb12).below hb13)).mono ?_
                      rintro e w14 ⟨a11, c11, rfl, _, ga4, hb14⟩
                      have hw14 := hw13.trans (hb14.mono hw13.size)
                      have gs4 := ((gs1.below hb12).below hb13).below hb14
                      have gd4 := (gd1.below hb13).below hb14
                      have gk4 := gk1.below hb14
                      have S4 := (((S9.below hb11).below hb12).below hb13).below hb14
                      have D4 := (((D9.below hb11).below hb12).below hb13).below hb14
                      have K4 := (((K9.below hb11).below hb12).below hb13).below hb14
                      have A4 := (((A9.below hb11).below hb12).below hb13).below hb14
                      have O4 := (((O9.below hb11).below hb12).below hb13).below hb14
                      clear gs1 gd1 gk1 S9 D9 K9 A9 O9 G9 hb11 hb12 hb13 hb14 hw5 hw9 hw11 hw12 hw13
                      go_wp2_with fail
                      go_loopw [31, 32] (fun y x wr => ∃ i j : Nat, x = .int .i64 i ∧ y = .int .i64 j ∧ i ≤ m ∧ j ≤ k3 ∧ Lies Q L i j ∧ Below w14.heap.size w14 wr) (fun _ x _ => m - (intOf x).toNat)
                      case atStart => exact ⟨0, hh, rfl, rfl, Nat.zero_le _, v3, HLies, Below.refl _ _⟩
                      case round =>
                        obtain ⟨i, j, rfl, rfl, him, hjn, HL4, hbr⟩ := hrel
                        clear HLies
                        by_cases hlt4 : i < m
                        · obtain ⟨f0, g0, rfl, s0, m0⟩ := gs4.cell hlt4
                          obtain ⟨f1, g1, rfl, s1, m1⟩ := gd4.cell hlt4
                          obtain ⟨f2, g2, rfl, s2, m2⟩ := gk4.cell hlt4
                          obtain ⟨f3, g3, rfl, s3, m3⟩ := ga4.cell hlt4
                          have p0 := m0 i hlt4
                          have p1 := m1 i hlt4
                          have p2 := m2 i hlt4
                          have p3 := m3 i hlt4
                          have hw := HWt.out i hlt4
                          have hiQ : i < Q.length := by rw [HKL.out]; exact hlt4
                          obtain ⟨y, hy⟩ : ∃ y, Q.getD i zm = y := ⟨_, rfl⟩
                          simp only [hy] at p0 p1 p2 p3 hw
                          obtain ⟨ys, yk, ya, yd⟩ := y
                          simp only at p0 p1 p2 p3 hw
                          have HY := hide hy
                          have q0 := (hbr.cell (p := ⟨f0, g0 + i, none⟩) s0).trans p0
                          have hys : (ys == 0) = false := by rw [beq_eq_false_iff_ne]; exact hw
                          clear m0 m1 m2 m3 hw hy O4 gs4 gd4 gk4 ga4
                          go_wp2_with fail
                          go_loopw [31] (fun y wr => ∃ j : Nat, y = .int .i64 j ∧ j ≤ k3 ∧ Lies Q L i j ∧ Below w14.heap.size w14 wr) (fun y _ => k3 - (intOf y).toNat)
                          case atStart => exact ⟨j, rfl, hjn, HL4, hbr⟩
                          case round =>
                            clear hjn HL4 hbr q0
                            obtain ⟨j, rfl, hjn, HL5, hbr⟩ := hrel
                            have hjL := HL5.more hiQ
                            have hjk : j < k3 := by rw [← HL.out]; exact hjL
                            obtain ⟨b0, o0, rfl, t0', l0⟩ := S4.cell hjk
                            obtain ⟨b1, o1, rfl, t1', l1⟩ := D4.cell hjk
                            obtain ⟨b2, o2, rfl, t2', l2⟩ := K4.cell hjk
                            obtain ⟨b3, o3, rfl, t3', l3⟩ := A4.cell hjk
                            have r0 := (hbr.cell (p := ⟨b0, o0 + j, none⟩) t0').trans (l0 j hjk)
                            have r1 := (hbr.cell (p := ⟨b1, o1 + j, none⟩) t1').trans (l1 j hjk)
                            have r2 := (hbr.cell (p := ⟨b2, o2 + j, none⟩) t2').trans (l2 j hjk)
                            have r3 := (hbr.cell (p := ⟨b3, o3 + j, none⟩) t3').trans (l3 j hjk)
                            have q0 := (hbr.cell (p := ⟨f0, g0 + i, none⟩) s0).trans p0
                            have q1 := (hbr.cell (p := ⟨f1, g1 + i, none⟩) s1).trans p1
                            have q2 := (hbr.cell (p := ⟨f2, g2 + i, none⟩) s2).trans p2
                            have q3 := (hbr.cell (p := ⟨f3, g3 + i, none⟩) s3).trans p3
                            have Hhit := hide (fun e => HL5.hit hiQ hjL e)
                            have Hmiss := hide (fun e => HL5.miss hiQ hjL e)
                            rw [HY.out] at Hhit Hmiss
                            obtain ⟨x, hx⟩ : ∃ x, L.getD j zm = x := ⟨_, rfl⟩
                            simp only [hx] at r0 r1 r2 r3
                            rw [hx] at Hhit Hmiss
                            clear hx l0 l1 l2 l3 HL5
                            obtain ⟨xs, xk, xa, xd⟩ := x
                            simp only at r0 r1 r2 r3
                            have hji : (j : Int) < (k3 : Int) := by omega
                            have hii : (i : Int) < (m : Int) := by omega
                            as_aux_lemma =>
                            by_cases e1 : xs = ys
                            · have b1' : (xs == ys) = true := by rw [beq_iff_eq]; exact e1
                              by_cases e2 : xd = yd
                              · have b2' : (xd == yd) = true := by rw [beq_iff_eq]; exact e2
                                by_cases e3 : xk = yk
                                · have b3' : (xk == yk) = true := by rw [beq_iff_eq]; exact e3
                                  by_cases e4 : xa = ya
                                  · have b4' : (xa.toList == ya.toList) = true := by rw [e4]; simp
                                    have HN := Hhit.out (mk_ext e1 e2 e3 e4)
                                    clear e1 e2 e3 e4 Hhit Hmiss
                                    go_wp2_with fail
                                    go_quiet (fail)
                                    go_wp2_with fail
                                    go_roundw
                                    case rel => exact ⟨i + 1, j + 1, by go_num, by go_num, by omega, by omega, HN, below_drewN hbr _⟩
                                    case measure => simp [intOf]; omega
                                  · have b4' : (xa.toList == ya.toList) = false := by rw [beq_eq_false_iff_ne]; exact fun h => e4 (bytes_ext h)
                                    have HN := Hmiss.out (fun h => e4 (congrArg Mk.a h))
                                    clear e1 e2 e3 e4 Hhit Hmiss
                                    go_wp2_with fail
                                    go_quiet (fail)
                                    go_wp2_with fail
                                    go_roundw
                                    case rel => exact ⟨j + 1, by go_num, by omega, HN, below_drewN hbr _⟩
                                    case measure => simp [intOf]; omega
                                · have b3' : (xk == yk) = false := by rw [beq_eq_false_iff_ne]; exact e3
                                  have HN := Hmiss.out (fun h => e3 (congrArg Mk.k h))
                                  clear e1 e2 e3 Hhit Hmiss
                                  go_wp2_with fail
                                  go_quiet (fail)
                                  go_wp2_with fail
                                  go_roundw
                                  case rel => exact ⟨j + 1, by go_num, by omega, HN, below_drewN hbr _⟩
                                  case measure => simp [intOf]; omega
                              · have b2' : (xd == yd) = false := by rw [beq_eq_false_iff_ne]; exact e2
                                have HN := Hmiss.out (fun h => e2 (congrArg Mk.d h))
                                clear e1 e2 Hhit Hmiss
                                go_wp2_with fail
                                go_quiet (fail)
                                go_wp2_with fail
                                go_roundw
                                case rel => exact ⟨j + 1, by go_num, by omega, HN, below_drewN hbr _⟩
                                case measure => simp [intOf]; omega
                            · have b1' : (xs == ys) = false := by rw [beq_eq_false_iff_ne]; exact e1
                              have HN := Hmiss.out (fun h => e1 (congrArg Mk.s h))
                              clear e1 Hhit Hmiss
                              go_wp2_with fail
                              go_quiet (fail)
                              go_wp2_with fail
                              go_roundw
                              case rel => exact ⟨j + 1, by go_num, by omega, HN, below_drewN hbr _⟩
                              case measure => simp [intOf]; omega
                        · as_aux_lemma =>
                          have O5 := O4.below hbr
                          have gs5 := gs4.below hbr
                          have gd5 := gd4.below hbr
                          have gk5 := gk4.below hbr
                          have ga5 := ga4.below hbr
                          have hw15 := hw14.trans (hbr.mono hw14.size)
                          clear O4 gs4 gd4 gk4 ga4 S4 D4 K4 A4 HL4 hw14 hbr
                          go_wp2_with fail
                          refine (madeSeqs_any (some ⟨gb, 0, none⟩) k3 k3 _ _ (by omega) O5).mono ?_
                          rintro e w16 ⟨a12, c12, rfl, _, os1, hb16⟩
                          have hw16 := hw15.trans (hb16.mono hw15.size)
                          go_wp2_with fail
                          refine (madeDeadlines_any (some ⟨gb, 0, none⟩) k3 k3 _ _ (by omega) (O5.below hb16)).mono ?_
                          rintro e w17 ⟨a13, c13, rfl, _, od1, hb17⟩
                          have hw17 := hw16.trans (hb17.mono hw16.size)
                          go_wp2_with fail
                          refine (madeKeys_any (some ⟨gb, 0, none⟩) k3 k3 _ _ (by omega) ((O5.below hb16).below hb17)).mono ?_
                          rintro e w18 ⟨a14, c14, rfl, _, ok1, hb18⟩
                          have hw18 := hw17.trans (hb18.mono hw17.size)
                          go_wp2_with fail
                          refine (madeAddrs_any (some ⟨gb, 0, none⟩) k3 k3 _ _ (by omega) (((O5.below hb16).below hb17).below hb18)).mono ?_
                          rintro e w19 ⟨a15, c15, rfl, _, oa4, hb19⟩
                          have hw19 := hw18.trans (hb19.mono hw18.size)
                          have os4 := ((os1.below hb17).below hb18).below hb19
                          have od4 := (od1.below hb18).below hb19
                          have ok4 := ok1.below hb19
                          have gs6 := (((gs5.below hb16).below hb17).below hb18).below hb19
                          have gd6 := (((gd5.below hb16).below hb17).below hb18).below hb19
                          have gk6 := (((gk5.below hb16).below hb17).below hb18).below hb19
                          have ga6 := (((ga5.below hb16).below hb17).below hb18).below hb19
                          clear os1 od1 ok1 gs5 gd5 gk5 ga5 O5 hb16 hb17 hb18 hb19 hw15 hw16 hw17 hw18
                          go_wp2_with fail
                          go_loopw [37] (fun x wr => ∃ t : Nat, x = .int .i64 t ∧ t ≤ k3 ∧ Below w19.heap.size w19 wr) (fun x _ => k3 - (intOf x).toNat)
                          case atStart => exact ⟨0, rfl, Nat.zero_le _, Below.refl _ _⟩
                          case round =>
                            obtain ⟨t, rfl, htk, hb20⟩ := hrel
                            by_cases hlt6 : t < k3
                            · obtain ⟨b0, o0, rfl, t0', l0⟩ := os4.cell hlt6
                              obtain ⟨b1, o1, rfl, t1', l1⟩ := od4.cell hlt6
                              obtain ⟨b2, o2, rfl, t2', l2⟩ := ok4.cell hlt6
                              obtain ⟨b3, o3, rfl, t3', l3⟩ := oa4.cell hlt6
                              have r0 := (hb20.cell (p := ⟨b0, o0 + t, none⟩) t0').trans (l0 t hlt6)
                              have r1 := (hb20.cell (p := ⟨b1, o1 + t, none⟩) t1').trans (l1 t hlt6)
                              have r2 := (hb20.cell (p := ⟨b2, o2 + t, none⟩) t2').trans (l2 t hlt6)
                              have r3 := (hb20.cell (p := ⟨b3, o3 + t, none⟩) t3').trans (l3 t hlt6)
                              have hti : (t : Int) < (k3 : Int) := by omega
                              clear l0 l1 l2 l3
                              by_cases htm : t < m
                              · obtain ⟨f0, g0, rfl, s0, m0⟩ := gs6.cell htm
                                obtain ⟨f1, g1, rfl, s1, m1⟩ := gd6.cell htm
                                obtain ⟨f2, g2, rfl, s2, m2⟩ := gk6.cell htm
                                obtain ⟨f3, g3, rfl, s3, m3⟩ := ga6.cell htm
                                have q0 := (hb20.cell (p := ⟨f0, g0 + t, none⟩) s0).trans (m0 t htm)
                                have q1 := (hb20.cell (p := ⟨f1, g1 + t, none⟩) s1).trans (m1 t htm)
                                have q2 := (hb20.cell (p := ⟨f2, g2 + t, none⟩) s2).trans (m2 t htm)
                                have q3 := (hb20.cell (p := ⟨f3, g3 + t, none⟩) s3).trans (m3 t htm)
                                have htm' : (t : Int) < (m : Int) := by omega
                                clear m0 m1 m2 m3 os4 od4 ok4 oa4 gs6 gd6 gk6 ga6
                                obtain ⟨y, hy⟩ : ∃ y, Q.getD t zm = y := ⟨_, rfl⟩
                                simp only [hy] at q0 q1 q2 q3 r0 r1 r2 r3
                                clear hy
                                obtain ⟨ys, yk, ya, yd⟩ := y
                                simp only at q0 q1 q2 q3 r0 r1 r2 r3
                                go_wp2_with fail
                                go_quiet (fail)
                                go_wp2_with fail
                                go_roundw
                                case rel => exact ⟨t + 1, by go_num, by omega, below_drewN hb20 _⟩
                                case measure => simp [intOf]; omega
                              · have hz := getD_past (K := Q) (i := t) (by rw [HKL.out]; omega)
                                simp only [hz] at r0 r1 r2 r3
                                simp only [zm] at r0 r1 r2 r3
                                clear hz os4 od4 ok4 oa4 gs6 gd6 gk6 ga6
                                go_wp2_with fail
                                go_roundw
                                case rel => exact ⟨t + 1, by go_num, by omega, hb20⟩
                                case measure => simp [intOf]; omega
                            · clear os4 od4 ok4 oa4 gs6 gd6 gk6 ga6
                              go_wp2_with fail
                              go_ret
                              exact ⟨rfl, hw19.trans (hb20.mono hw19.size)⟩
                    · have w0' : (op != (m : Int)) = true := by rw [bne_iff_ne]; exact w0
                      go_wp2_with fail
                      go_ret
                      exact ⟨rfl, hb1⟩
          · have u3' : ((n3 : Int) != (n2 : Int)) = true := by simp; omega
            go_wp2_with fail
            go_ret
            exact ⟨rfl, hb1⟩
        · have u2' : ((n2 : Int) != (n1 : Int)) = true := by simp; omega
          go_wp2_with fail
          go_ret
          exact ⟨rfl, hb1⟩
      · have u1' : ((n1 : Int) != (n0 : Int)) = true := by simp; omega
        go_wp2_with fail
        go_ret
        exact ⟨rfl, hb1⟩
end Go.Proofs.Qxb6603661a
