/-
  THE WALK of compact (32, 17).
-/
import Derived.Test.Qxb6603661aW3
namespace Go.Proofs.Qxb6603661a
open Go.RowKit Zz Ring Go.Maps

theorem zero55 (w : World) : (zeroValue 55).run Try.prog w = .ok (.agg #[.int .u64 0, .int .u64 0, .string ByteArray.empty, .nilFunc, .nilFunc, .int .i64 0]) w := by kernel_rfl

theorem getD_past {K : List Mk} {i : Nat} (h : K.length ≤ i) : K.getD i zm = zm := by
  rw [List.getD_eq_getElem?_getD, List.getElem?_eq_none h]
  rfl

def RetC (gq gb n : Nat) (K : List Mk) (o : Int) (p : Option Addr) (ar : Bool) (w : World) (e : Ending) (w' : World) : Prop := e = .returned (.tuple #[]) ∧ ∃ p' : Option Addr, p'.isSome = p.isSome ∧
  w'.rowIs gq 58 5 (qc (.slice (some ⟨gb, 0, none⟩) K.length n) 0 o (.pointer p') ar) ∧ w'.rowIs gb 55 (n * 6) (mc fun i => K.getD i zm) ∧ BlkKept (fun k => k = gq ∨ k = gb) w w'

set_option maxHeartbeats 1000000 in
theorem compact_any (gq gb n hd : Nat) (o : Int) (p : Option Addr) (ar : Bool) (L : List Mk) (w : World) (hL : L.length = n) (hn : n ≤ 32768) (hh : hd ≤ n) (hne : gb ≠ gq)
    (hq : w.rowIs gq 58 5 (qc (.slice (some ⟨gb, 0, none⟩) n n) hd o (.pointer p) ar)) (hb : w.rowIs gb 55 (n * 6) (mc fun i => L.getD i zm)) (hwf : ∀ i, i < n → (Lit.int .u64 (L.getD i zm).s).wf = true) :
    Calls Try.prog 32 #[.pointer (some ⟨gq, 0, none⟩)] w fun e w' => RetC gq gb n ((L.drop hd).filter waits) o p ar w e w' := by
  obtain ⟨i0, hi, hz0, hz1, hz2⟩ := info_parts info55
  have HL := hide hL
  have HW := hide hwf
  clear hL hwf
  have q0 : w.cell? ⟨gq, 0, none⟩ = some (.slice (some ⟨gb, 0, none⟩) n n) := hq.cell (i := 0) (by omega)
  have q1 : w.cell? ⟨gq, 1, none⟩ = some (.int .i64 hd) := hq.cell (i := 1) (by omega)
  have hh' : (hd : Int) ≤ (n : Int) := by omega
  obtain ⟨K, hK⟩ : ∃ K, (L.drop hd).filter waits = K := ⟨_, rfl⟩
  have HKD := hide hK
  have HKW := hide (kept_all (h := hd) (P := fun x => (Lit.int .u64 x.s).wf = true) (fun i hi => HW.out i (by rw [← HL.out]; exact hi)))
  rw [hK] at HKW ⊢
  clear hK
  by_cases hhn : hd < n
  · have hd1 : ¬ n = hd := by omega
    go_enter Try.func32, Try.ntmps32
    go_wp2_with fail
    go_quiet (fail)
    go_wp2_with fail
    go_loopw [2, 20] (fun v x wr => ∃ t : Nat, t ≤ n - hd ∧ x = .int .i64 t ∧ v = .slice (some ⟨gb, 0, none⟩) (kp L hd t).length n ∧ wr.rowIs gb 55 (n * 6) (mc fun i => if i < (kp L hd t).length then (kp L hd t).getD i zm else L.getD i zm) ∧
      wr.rowIs gq 58 5 (qc (.slice (some ⟨gb, 0, none⟩) n n) hd o (.pointer p) ar) ∧ BlkKept (fun k => k = gq ∨ k = gb) w wr) (fun _ x _ => (n - hd) - (intOf x).toNat)
    case atStart => exact ⟨0, Nat.zero_le _, rfl, by rw [kp_zero]; rfl, (hb.congr (fun j hj => by simp [kp_zero])).of_block rfl, hq.of_block rfl, (BlkKept.refl _ _).drewN _⟩
    case round =>
      obtain ⟨t, ht, rfl, rfl, hrow, hqr, hT⟩ := hrel
      clear hb hq q0 q1
      by_cases hlt : t < n - hd
      · have hht : hd + t < L.length := by rw [HL.out]; omega
        have hkl := kp_len L hd t
        have Z := six_of_row hrow (show hd + t < n by omega)
        rw [if_neg (by omega)] at Z
        rw [Nat.add_mul] at Z
        have Hkeep := hide (fun h => kp_keep (L := L) hht h)
        have Hdrop := hide (fun h => kp_drop (L := L) hht h)
        generalize L.getD (hd + t) zm = x at *
        obtain ⟨xs, xk, xa, xd⟩ := x
        have z0 : wr.cell? ⟨gb, hd * 6 + t * 6, none⟩ = some (.int .u64 xs) := Z.c0
        have z1 : wr.cell? ⟨gb, hd * 6 + t * 6 + 1, none⟩ = some (.int .u64 xk) := Z.c1
        have z2 : wr.cell? ⟨gb, hd * 6 + t * 6 + 2, none⟩ = some (.string xa) := Z.c2
        have z3 : wr.cell? ⟨gb, hd * 6 + t * 6 + 3, none⟩ = some .nilFunc := Z.c3
        have z4 : wr.cell? ⟨gb, hd * 6 + t * 6 + 4, none⟩ = some .nilFunc := Z.c4
        have z5 : wr.cell? ⟨gb, hd * 6 + t * 6 + 5, none⟩ = some (.int .i64 xd) := Z.c5
        have hti : (t : Int) < ((n - hd : Nat) : Int) := by omega
        clear Z
        by_cases hs : xs = 0
        · have hs' : (xs != 0) = false := by simp [hs]
          have eK := Hdrop.out hs
          have R1 := hide (hrow.alloc (.cells #[.int .u64 xs, .int .u64 xk, .string xa, .nilFunc, .nilFunc, .int .i64 xd] 55))
          have R2 := hide (hqr.alloc (.cells #[.int .u64 xs, .int .u64 xk, .string xa, .nilFunc, .nilFunc, .int .i64 xd] 55))
          have R3 := hT.alloc (.cells #[.int .u64 xs, .int .u64 xk, .string xa, .nilFunc, .nilFunc, .int .i64 xd] 55)
          have HE := hide eK
          clear hs eK hrow hqr Hkeep Hdrop
          go_wp2
          go_roundw
          case rel => exact ⟨t + 1, by omega, by go_num, by rw [HE.out], by rw [HE.out]; exact R1.out, R2.out, R3⟩
          case measure => simp [intOf]; omega
        · have hs' : (xs != 0) = true := by simp [hs]
          have eK := Hkeep.out hs
          have HE := hide eK
          have hkn : (kp L hd t).length < n := by omega
          clear hs eK Hkeep Hdrop
          generalize hkk : kp L hd t = Kt at *
          have HKK := hide hkk
          clear hkk
          go_wp2_with (first | (at_builtin; refine wpList_append_row _ rfl _ _ 36 rfl 55 i0 Try.underlying36 hi hz1 gb Kt.length n _ rfl (by exact (hrow.alloc _).alloc _) hkn ⟨wr.heap.size + 1, 0, none⟩ ⟨xs, xk, xa, xd⟩ rfl (by have := cell_six_new (wr.alloc (.cells #[.int .u64 xs, .int .u64 xk, .string xa, .nilFunc, .nilFunc, .int .i64 xd] 55)) ⟨xs, xk, xa, xd⟩ 55; simpa using this) ?_; intro w1 hrow1 hg1))
          have R2 := hide (((hqr.alloc _).alloc _).of_block (w' := w1) (hg1.block gq (by have := hqr.lt; simp; omega) (by simpa using fun h => hne h.symm)))
          have R3 := ((hT.alloc _).alloc _).grown hg1 (fun k hk => .inl (.inr (by simpa using hk.symm)))
          have R1 := hide (hrow1.congr (g := mc fun i => if i < (Kt ++ [(⟨xs, xk, xa, xd⟩ : Mk)]).length then (Kt ++ [(⟨xs, xk, xa, xd⟩ : Mk)]).getD i zm else L.getD i zm) (mc_congr fun i hi => by
            by_cases e : i = Kt.length
            · subst e; simp
            · by_cases e2 : i < Kt.length
              · simp [e, e2, show i < Kt.length + 1 by omega]
              · simp [e, e2, show ¬ i < Kt.length + 1 by omega]))
          clear hrow hrow1 hqr hg1
          go_wp2
          go_roundw
          case rel => exact ⟨t + 1, by omega, by go_num, by rw [HE.out]; simp, by rw [HE.out]; exact R1.out, R2.out, R3⟩
          case measure => simp [intOf]; omega
      · have hte : t = n - hd := by omega
        have eK : kp L hd t = K := by rw [← HKD.out, ← kp_all, HL.out, hte]
        have hkl := kp_len L hd t
        rw [eK] at hrow hkl ⊢
        clear eK hte
        obtain ⟨k, hk⟩ : ∃ k, K.length = k := ⟨_, rfl⟩
        rw [hk] at hrow hkl ⊢
        have HK := hide hk
        clear hk
        have hkn : k ≤ n := by omega
        by_cases hk1 : k < n
        · obtain ⟨w2, hcl, hrow2, hg2⟩ := run_clear_row wr 36 55 Try.underlying36 zero55 (m := k) (c := n - k) hrow hk1
          have hrow3 := hrow2.congr (g := mc fun i => K.getD i zm) (mc_congr fun i hi => by
            by_cases e : i < k
            · simp only [if_pos e]
            · simp only [if_neg e]; exact (getD_past (by rw [HK.out]; omega)).symm)
          have hkz : ¬ n = k := by omega
          have hqr0 := hqr
          have hqr2 := hqr.of_block (w' := w2) (hg2.block gq hqr.lt (by simpa using fun h => hne h.symm))
          have hT2 := hT.grown hg2 (fun j hj => .inl (.inr (by simpa using hj.symm)))
          clear hrow hrow2 hg2 hqr hT hi hz0 hz1 hz2
          have hbl := hrow3.lt
          have hql := hqr2.lt
          have y0 : w2.cell? ⟨gq, 0, none⟩ = some (.slice (some ⟨gb, 0, none⟩) n n) := hqr2.cell (i := 0) (by omega)
          have y1 : w2.cell? ⟨gq, 1, none⟩ = some (.int .i64 hd) := hqr2.cell (i := 1) (by omega)
          have y3 : w2.cell? ⟨gq, 3, none⟩ = some (.pointer p) := hqr2.cell (i := 3) (by omega)
          have f0 := hqr2.frozen 0
          have f1 := hqr2.frozen 1
          have Q1 := hide (((hqr2.set 0 (.slice (some ⟨gb, 0, none⟩) k n)).set 1 (.int .i64 0)).congr (g := qc (.slice (some ⟨gb, 0, none⟩) k n) 0 o (.pointer p) ar) (fun j hj => by
            match j, hj with
            | 0, _ => rfl
            | 1, _ => rfl
            | 2, _ => rfl
            | 3, _ => rfl
            | 4, _ => rfl))
          have Q2 := hide (((hrow3.setOther (a := ⟨gq, 0, none⟩) hne (.slice (some ⟨gb, 0, none⟩) k n))).setOther (a := ⟨gq, 1, none⟩) hne (.int .i64 0))
          have Q3 := (hT2.setCell (p := ⟨gq, 0, none⟩) (.inl (.inl rfl)) (.slice (some ⟨gb, 0, none⟩) k n)).setCell (p := ⟨gq, 1, none⟩) (.inl (.inl rfl)) (.int .i64 0)
          have x0 : wr.cell? ⟨gq, 0, none⟩ = some (.slice (some ⟨gb, 0, none⟩) n n) := hqr0.cell (i := 0) (by omega)
          clear hqr0
          clear hqr2 hrow3
          cases p with
          | none =>
            go_wp2
            go_end0
            exact ⟨rfl, none, rfl, by rw [HK.out]; exact Q1.out, Q2.out, Q3⟩
          | some p =>
            go_wp2_with fail
            refine (reindex_any gq gb k n 0 o (some p) ar (fun i => K.getD i zm) _ (by omega) (by omega) hne Q1.out Q2.out (fun i hi => HKW.out i (by rw [HK.out]; exact hi))).mono ?_
            rintro e w5 ⟨rfl, q, r1, r2⟩
            have B2 := Q2.out.of_block (w' := w5) (r2.block gb (by have := Q3.size; have := Q2.out.lt; omega) hne)
            have B3 : BlkKept (fun k => k = gq ∨ k = gb) w w5 := Q3.trans ⟨r2.os, r2.tape, r2.output, r2.size, fun j hj hs => r2.block j hj (fun e => hs (.inl e))⟩
            go_wp2
            go_end0
            exact ⟨rfl, some q, rfl, by rw [HK.out]; exact r1, B2, B3⟩
        · obtain rfl : k = n := by omega
          have hcl : ∀ ty (W : World), (Builtin.clear_ #[36] ty #[.slice (some ⟨gb, 0, none⟩) 0 0]).run Try.prog W = .ok (.tuple #[]) W := fun ty W => by simp [Builtin.clear_, run_underlying Try.underlying36]
          have hrow3 := hrow.congr (g := mc fun i => K.getD i zm) (mc_congr fun i hi => by simp only [if_pos hi])
          have hqr2 := hqr
          have hT2 := hT
          clear hrow hqr hT hi hz0 hz1 hz2
          have hbl := hrow3.lt
          have hql := hqr2.lt
          have y0 : wr.cell? ⟨gq, 0, none⟩ = some (.slice (some ⟨gb, 0, none⟩) k k) := hqr2.cell (i := 0) (by omega)
          have y1 : wr.cell? ⟨gq, 1, none⟩ = some (.int .i64 hd) := hqr2.cell (i := 1) (by omega)
          have y3 : wr.cell? ⟨gq, 3, none⟩ = some (.pointer p) := hqr2.cell (i := 3) (by omega)
          have f0 := hqr2.frozen 0
          have f1 := hqr2.frozen 1
          have Q1 := hide (((hqr2.set 0 (.slice (some ⟨gb, 0, none⟩) k k)).set 1 (.int .i64 0)).congr (g := qc (.slice (some ⟨gb, 0, none⟩) k k) 0 o (.pointer p) ar) (fun j hj => by
            match j, hj with
            | 0, _ => rfl
            | 1, _ => rfl
            | 2, _ => rfl
            | 3, _ => rfl
            | 4, _ => rfl))
          have Q2 := hide (((hrow3.setOther (a := ⟨gq, 0, none⟩) hne (.slice (some ⟨gb, 0, none⟩) k k))).setOther (a := ⟨gq, 1, none⟩) hne (.int .i64 0))
          have Q3 := (hT2.setCell (p := ⟨gq, 0, none⟩) (.inl (.inl rfl)) (.slice (some ⟨gb, 0, none⟩) k k)).setCell (p := ⟨gq, 1, none⟩) (.inl (.inl rfl)) (.int .i64 0)
          clear hqr2 hrow3
          cases p with
          | none =>
            go_wp2
            go_end0
            exact ⟨rfl, none, rfl, by rw [HK.out]; exact Q1.out, Q2.out, Q3⟩
          | some p =>
            go_wp2_with fail
            refine (reindex_any gq gb k k 0 o (some p) ar (fun i => K.getD i zm) _ (by omega) (by omega) hne Q1.out Q2.out (fun i hi => HKW.out i (by rw [HK.out]; exact hi))).mono ?_
            rintro e w5 ⟨rfl, q, r1, r2⟩
            have B2 := Q2.out.of_block (w' := w5) (r2.block gb (by have := Q3.size; have := Q2.out.lt; omega) hne)
            have B3 : BlkKept (fun k => k = gq ∨ k = gb) w w5 := Q3.trans ⟨r2.os, r2.tape, r2.output, r2.size, fun j hj hs => r2.block j hj (fun e => hs (.inl e))⟩
            go_wp2
            go_end0
            exact ⟨rfl, some q, rfl, by rw [HK.out]; exact r1, B2, B3⟩
  · obtain rfl : hd = n := by omega
    go_enter Try.func32, Try.ntmps32
    go_wp2_with fail
    go_quiet (fail)
    go_wp2_with fail
    go_loopw [2, 20] (fun v x wr => ∃ t : Nat, t ≤ hd - hd ∧ x = .int .i64 t ∧ v = .slice (some ⟨gb, 0, none⟩) (kp L hd t).length hd ∧ wr.rowIs gb 55 (hd * 6) (mc fun i => if i < (kp L hd t).length then (kp L hd t).getD i zm else L.getD i zm) ∧
      wr.rowIs gq 58 5 (qc (.slice (some ⟨gb, 0, none⟩) hd hd) hd o (.pointer p) ar) ∧ BlkKept (fun k => k = gq ∨ k = gb) w wr) (fun _ x _ => (hd - hd) - (intOf x).toNat)
    case atStart => exact ⟨0, Nat.zero_le _, rfl, by rw [kp_zero]; rfl, (hb.congr (fun j hj => by simp [kp_zero])).of_block rfl, hq.of_block rfl, (BlkKept.refl _ _).drewN _⟩
    case round =>
      obtain ⟨t, ht, rfl, rfl, hrow, hqr, hT⟩ := hrel
      clear hb hq q0 q1
      by_cases hlt : t < hd - hd
      · omega
      · have hte : t = hd - hd := by omega
        have eK : kp L hd t = K := by rw [← HKD.out, ← kp_all, HL.out, hte]
        have hkl := kp_len L hd t
        rw [eK] at hrow hkl ⊢
        clear eK hte
        obtain ⟨k, hk⟩ : ∃ k, K.length = k := ⟨_, rfl⟩
        rw [hk] at hrow hkl ⊢
        have HK := hide hk
        clear hk
        have hkn : k ≤ hd := by omega
        by_cases hk1 : k < hd
        · obtain ⟨w2, hcl, hrow2, hg2⟩ := run_clear_row wr 36 55 Try.underlying36 zero55 (m := k) (c := hd - k) hrow hk1
          have hrow3 := hrow2.congr (g := mc fun i => K.getD i zm) (mc_congr fun i hi => by
            by_cases e : i < k
            · simp only [if_pos e]
            · simp only [if_neg e]; exact (getD_past (by rw [HK.out]; omega)).symm)
          have hkz : ¬ hd = k := by omega
          have hqr0 := hqr
          have hqr2 := hqr.of_block (w' := w2) (hg2.block gq hqr.lt (by simpa using fun h => hne h.symm))
          have hT2 := hT.grown hg2 (fun j hj => .inl (.inr (by simpa using hj.symm)))
          clear hrow hrow2 hg2 hqr hT hi hz0 hz1 hz2
          have hbl := hrow3.lt
          have hql := hqr2.lt
          have y0 : w2.cell? ⟨gq, 0, none⟩ = some (.slice (some ⟨gb, 0, none⟩) hd hd) := hqr2.cell (i := 0) (by omega)
          have y1 : w2.cell? ⟨gq, 1, none⟩ = some (.int .i64 hd) := hqr2.cell (i := 1) (by omega)
          have y3 : w2.cell? ⟨gq, 3, none⟩ = some (.pointer p) := hqr2.cell (i := 3) (by omega)
          have f0 := hqr2.frozen 0
          have f1 := hqr2.frozen 1
          have Q1 := hide (((hqr2.set 0 (.slice (some ⟨gb, 0, none⟩) k hd)).set 1 (.int .i64 0)).congr (g := qc (.slice (some ⟨gb, 0, none⟩) k hd) 0 o (.pointer p) ar) (fun j hj => by
            match j, hj with
            | 0, _ => rfl
            | 1, _ => rfl
            | 2, _ => rfl
            | 3, _ => rfl
            | 4, _ => rfl))
          have Q2 := hide (((hrow3.setOther (a := ⟨gq, 0, none⟩) hne (.slice (some ⟨gb, 0, none⟩) k hd))).setOther (a := ⟨gq, 1, none⟩) hne (.int .i64 0))
          have Q3 := (hT2.setCell (p := ⟨gq, 0, none⟩) (.inl (.inl rfl)) (.slice (some ⟨gb, 0, none⟩) k hd)).setCell (p := ⟨gq, 1, none⟩) (.inl (.inl rfl)) (.int .i64 0)
          have x0 : wr.cell? ⟨gq, 0, none⟩ = some (.slice (some ⟨gb, 0, none⟩) hd hd) := hqr0.cell (i := 0) (by omega)
          clear hqr0
          clear hqr2 hrow3
          cases p with
          | none =>
            go_wp2
            go_end0
            exact ⟨rfl, none, rfl, by rw [HK.out]; exact Q1.out, Q2.out, Q3⟩
          | some p =>
            go_wp2_with fail
            refine (reindex_any gq gb k hd 0 o (some p) ar (fun i => K.getD i zm) _ (by omega) (by omega) hne Q1.out Q2.out (fun i hi => HKW.out i (by rw [HK.out]; exact hi))).mono ?_
            rintro e w5 ⟨rfl, q, r1, r2⟩
            have B2 := Q2.out.of_block (w' := w5) (r2.block gb (by have := Q3.size; have := Q2.out.lt; omega) hne)
            have B3 : BlkKept (fun k => k = gq ∨ k = gb) w w5 := Q3.trans ⟨r2.os, r2.tape, r2.output, r2.size, fun j hj hs => r2.block j hj (fun e => hs (.inl e))⟩
            go_wp2
            go_end0
            exact ⟨rfl, some q, rfl, by rw [HK.out]; exact r1, B2, B3⟩
        · obtain rfl : k = hd := by omega
          have hcl : ∀ ty (W : World), (Builtin.clear_ #[36] ty #[.slice (some ⟨gb, 0, none⟩) 0 0]).run Try.prog W = .ok (.tuple #[]) W := fun ty W => by simp [Builtin.clear_, run_underlying Try.underlying36]
          have hrow3 := hrow.congr (g := mc fun i => K.getD i zm) (mc_congr fun i hi => by simp only [if_pos hi])
          have hqr2 := hqr
          have hT2 := hT
          clear hrow hqr hT hi hz0 hz1 hz2
          have hbl := hrow3.lt
          have hql := hqr2.lt
          have y0 : wr.cell? ⟨gq, 0, none⟩ = some (.slice (some ⟨gb, 0, none⟩) k k) := hqr2.cell (i := 0) (by omega)
          have y1 : wr.cell? ⟨gq, 1, none⟩ = some (.int .i64 k) := hqr2.cell (i := 1) (by omega)
          have y3 : wr.cell? ⟨gq, 3, none⟩ = some (.pointer p) := hqr2.cell (i := 3) (by omega)
          have f0 := hqr2.frozen 0
          have f1 := hqr2.frozen 1
          have Q1 := hide (((hqr2.set 0 (.slice (some ⟨gb, 0, none⟩) k k)).set 1 (.int .i64 0)).congr (g := qc (.slice (some ⟨gb, 0, none⟩) k k) 0 o (.pointer p) ar) (fun j hj => by
            match j, hj with
            | 0, _ => rfl
            | 1, _ => rfl
            | 2, _ => rfl
            | 3, _ => rfl
            | 4, _ => rfl))
          have Q2 := hide (((hrow3.setOther (a := ⟨gq, 0, none⟩) hne (.slice (some ⟨gb, 0, none⟩) k k))).setOther (a := ⟨gq, 1, none⟩) hne (.int .i64 0))
          have Q3 := (hT2.setCell (p := ⟨gq, 0, none⟩) (.inl (.inl rfl)) (.slice (some ⟨gb, 0, none⟩) k k)).setCell (p := ⟨gq, 1, none⟩) (.inl (.inl rfl)) (.int .i64 0)
          clear hqr2 hrow3
          cases p with
          | none =>
            go_wp2
            go_end0
            exact ⟨rfl, none, rfl, by rw [HK.out]; exact Q1.out, Q2.out, Q3⟩
          | some p =>
            go_wp2_with fail
            refine (reindex_any gq gb k k 0 o (some p) ar (fun i => K.getD i zm) _ (by omega) (by omega) hne Q1.out Q2.out (fun i hi => HKW.out i (by rw [HK.out]; exact hi))).mono ?_
            rintro e w5 ⟨rfl, q, r1, r2⟩
            have B2 := Q2.out.of_block (w' := w5) (r2.block gb (by have := Q3.size; have := Q2.out.lt; omega) hne)
            have B3 : BlkKept (fun k => k = gq ∨ k = gb) w w5 := Q3.trans ⟨r2.os, r2.tape, r2.output, r2.size, fun j hj hs => r2.block j hj (fun e => hs (.inl e))⟩
            go_wp2
            go_end0
            exact ⟨rfl, some q, rfl, by rw [HK.out]; exact r1, B2, B3⟩
end Go.Proofs.Qxb6603661a
