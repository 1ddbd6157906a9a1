/-
  THE WALK of 'slide' (22): on edits that are a chain it hands back 'Slid.slide' of them, in new memory.
-/
import Derived.Test.Qxb6602961aW1
import Derived.Test.Qxb6602961aPlain2
import Derived.Deep.LoopGhost
import Derived.WalkMore
namespace Go.Proofs.Qxb6602961a
open Go.RowKit Zz

def cellsOf (S : List Slid.Ed) : List Value := S.flatMap fun e => [.int .i64 e.o, .int .i64 e.d, .int .i64 e.n, .int .i64 e.i]

theorem cellsOf_snoc (S : List Slid.Ed) (e : Slid.Ed) : cellsOf (S ++ [e]) = cellsOf S ++ [.int .i64 e.o, .int .i64 e.d, .int .i64 e.n, .int .i64 e.i] := by simp [cellsOf]

theorem cellsOf_at (S : List Slid.Ed) : ∀ i, i < S.length → (cellsOf S)[i * 4]? = some (.int .i64 (S.getD i Slid.ed0).o) ∧ (cellsOf S)[i * 4 + 1]? = some (.int .i64 (S.getD i Slid.ed0).d) ∧
    (cellsOf S)[i * 4 + 2]? = some (.int .i64 (S.getD i Slid.ed0).n) ∧ (cellsOf S)[i * 4 + 3]? = some (.int .i64 (S.getD i Slid.ed0).i) := by
  induction S with
  | nil => intro i hi; simp at hi
  | cons e es ih =>
    intro i hi
    have hc : cellsOf (e :: es) = .int .i64 e.o :: .int .i64 e.d :: .int .i64 e.n :: .int .i64 e.i :: cellsOf es := by simp [cellsOf]
    rw [hc]
    cases i with
    | zero => simp
    | succ i =>
      have := ih i (by simpa using hi)
      rw [show (i + 1) * 4 = i * 4 + 1 + 1 + 1 + 1 by omega]
      simpa using this

/-- What was laid down by append is a row of edits. -/
theorem erow_of_own {w : World} {base : Nat} {v : Value} {S : List Slid.Ed} (h : w.ownsRow base 39 4 v S.length (cellsOf S)) : ∃ a c, v = .slice a S.length c ∧ ERow w a S.length (fun i => S.getD i Slid.ed0) := by
  have hc := h
  obtain ⟨hl, ⟨rfl, h0⟩ | ⟨g, cap, cur, rfl, hb, hg, _⟩⟩ := h
  · exact ⟨none, 0, by rw [h0], .inl h0⟩
  · refine ⟨some ⟨g, 0, none⟩, cap, rfl, .inr ⟨g, 0, rfl, ?_, fun i hi => ?_⟩⟩
    · obtain ⟨hlt, _⟩ := Array.getElem?_eq_some_iff.1 hg
      exact hlt
    · obtain ⟨q0, q1, q2, q3⟩ := cellsOf_at S i hi
      rw [Nat.zero_add]
      exact ⟨(hc.cellAt (i * 4) (by omega)).trans q0, (hc.cellAt (i * 4 + 1) (by omega)).trans q1, (hc.cellAt (i * 4 + 2) (by omega)).trans q2, (hc.cellAt (i * 4 + 3) (by omega)).trans q3⟩

theorem natIdx (n : Nat) : ((n : Int)).toNat = n := Int.toNat_natCast n
theorem natIdx2 (n m : Nat) : ((n : Int) + (m : Int)).toNat = n + m := by omega

theorem cell_four_new (w : World) (a b c d : Value) (t : TypeId) : ∀ j u, [a, b, c, d][j]? = some u → (w.alloc (.cells #[a, b, c, d] t)).cell? ((⟨w.heap.size, 0, none⟩ : Addr).add j) = some u := by
  intro j u hj
  match j, hj with
  | 0, hj => simp at hj; subst hj; simp [Addr.add]
  | 1, hj => simp at hj; subst hj; simp [Addr.add]
  | 2, hj => simp at hj; subst hj; simp [Addr.add]
  | 3, hj => simp at hj; subst hj; simp [Addr.add]

theorem four_one (a b c d : Int) : ∀ u ∈ [Value.int .i64 a, .int .i64 b, .int .i64 c, .int .i64 d], u.oneCell' = true := by
  intro u hu
  simp at hu
  rcases hu with rfl | rfl | rfl | rfl <;> rfl

/-- An edit is laid down: what the outer loop's relation wants. -/
theorem rel_lay {L : List Slid.Ed} {la lb : Int} {A B : Nat → Int} {T S : List Slid.Ed} {f k : Nat} {e : Slid.Ed} {w W w1 : World} {v v' : Value} {o : Obj}
    (HX : Slid.OutSt L la lb A B T (S ++ [e]) f k) (hown' : w1.ownsRow w.heap.size 39 4 v' (S.length + 1) (cellsOf S ++ [.int .i64 e.o, .int .i64 e.d, .int .i64 e.n, .int .i64 e.i]))
    (hgrow : (W.alloc o).grownBy w1 v.ownBlock) (hlt : ∀ k, v.ownBlock = some k → w.heap.size ≤ k) (RW : Below w.heap.size w W) :
    w1.ownsRow w.heap.size 39 4 v' (S ++ [e]).length (cellsOf (S ++ [e])) ∧ Slid.OutSt L la lb A B T (S ++ [e]) f k ∧ Below w.heap.size w w1 := by
  refine ⟨?_, HX, ?_⟩
  · rw [cellsOf_snoc, List.length_append]
    exact hown'
  · exact (RW.alloc RW.size o).grown hgrow (by have := RW.size; simp; omega) hlt

set_option maxRecDepth 10000 in
set_option maxHeartbeats 2000000 in
theorem slide_any (a0 a1 a2 : Option Addr) (c0 c1 c2 la lb : Nat) (L : List Slid.Ed) (A B : Nat → Int) (w : World) (hn : L.length ≤ 8192) (hla : la ≤ 32768) (hlb : lb ≤ 32768)
    (hE : ERow w a0 L.length (fun i => L.getD i Slid.ed0)) (hA : VRow w a1 la (fun i => .int .i64 (A i))) (hB : VRow w a2 lb (fun i => .int .i64 (B i))) (hC : Slid.Chain la lb 0 0 L) :
    Calls Try.prog 22 #[.slice a0 L.length c0, .slice a1 la c1, .slice a2 lb c2] w fun e w' => RetE w (Slid.slide la A B L).length (fun i => (Slid.slide la A B L).getD i Slid.ed0) e w' := by
  obtain ⟨i0, hi, hz0, hz1, hz2⟩ := info_parts info39
  have HO := Slid.OutSt.start (A := A) (B := B) hC (by omega)
  clear hC
  generalize Slid.slide la A B L = T at *
  generalize L.length + (la : Int).toNat + 2 = f0 at *
  obtain ⟨N, hN⟩ : ∃ N, L.length = N := ⟨_, rfl⟩
  rw [hN] at hn hE ⊢
  have HN : Hid (L.length = N) := hN
  clear hN
  go_enter Try.func22, Try.ntmps22
  go_wp2
  go_loopw [7, 8] (fun v x wr => ∃ (k f : Nat) (S : List Slid.Ed), k ≤ N ∧ x = .int .i64 k ∧ S.length ≤ k ∧ wr.ownsRow w.heap.size 39 4 v S.length (cellsOf S) ∧ Slid.OutSt L la lb A B T S f k ∧ Below w.heap.size w wr) (fun _ x _ => N - (intOf x).toNat)
  case atStart => exact ⟨0, f0, [], Nat.zero_le _, rfl, Nat.le_refl _, World.ownsRow_nil _ _ _ _, HO, Below.refl _ _⟩
  case round =>
    obtain ⟨k, f, S, hk, rfl, hS, hown, HS, hb⟩ := hrel
    clear HO
    obtain ⟨wo, rfl⟩ : ∃ x, x = wr := ⟨_, rfl⟩
    by_cases hlt : k < N
    · obtain ⟨b, off, rfl, hbs, hcell⟩ := hE.cell hlt
      have HT := HS.enter (by rw [HN.out]; exact hlt)
      have hbd := HT.bounds
      obtain ⟨q0, q1, q2, q3⟩ := hcell k hlt
      obtain ⟨⟨o, d, n, i⟩, he⟩ : ∃ e, L.getD k Slid.ed0 = e := ⟨_, rfl⟩
      rw [he] at q0 q1 q2 q3 HT hbd
      simp only at q0 q1 q2 q3 hbd
      have g0 : wo.cell? ⟨b, off + k * 4, none⟩ = some (.int .i64 o) := (hb.cell (p := ⟨b, off + k * 4, none⟩) hbs).trans q0
      have g1 : wo.cell? ⟨b, off + k * 4 + 1, none⟩ = some (.int .i64 d) := (hb.cell (p := ⟨b, off + k * 4 + 1, none⟩) hbs).trans q1
      have g2 : wo.cell? ⟨b, off + k * 4 + 2, none⟩ = some (.int .i64 n) := (hb.cell (p := ⟨b, off + k * 4 + 2, none⟩) hbs).trans q2
      have g3 : wo.cell? ⟨b, off + k * 4 + 3, none⟩ = some (.int .i64 i) := (hb.cell (p := ⟨b, off + k * 4 + 3, none⟩) hbs).trans q3
      obtain ⟨h1, h2, h3, h4, h5, h6⟩ := hbd
      obtain ⟨o, rfl⟩ := Int.eq_ofNat_of_zero_le h1
      obtain ⟨d, rfl⟩ := Int.eq_ofNat_of_zero_le h2
      obtain ⟨n, rfl⟩ := Int.eq_ofNat_of_zero_le h3
      obtain ⟨i, rfl⟩ := Int.eq_ofNat_of_zero_le h4
      clear he q0 q1 q2 q3 h1 h2 h3 h4 h5 h6 HS
      go_wp2
      go_step3
      go_wp2
      go_step3
      go_wp2
      clear g0 g1 g2 g3
      go_loopg [8] f (fun f x wr => ∃ (k' o d n i : Nat), x = .int .i64 k' ∧ k' < N ∧ k ≤ k' ∧ wr.cell? ⟨wo.heap.size, 0, none⟩ = some (.int .i64 o) ∧ wr.cell? ⟨wo.heap.size, 1, none⟩ = some (.int .i64 d) ∧
        wr.cell? ⟨wo.heap.size, 2, none⟩ = some (.int .i64 n) ∧ wr.cell? ⟨wo.heap.size, 3, none⟩ = some (.int .i64 i) ∧ (∀ j, wr.frozen? ⟨wo.heap.size, j, none⟩ = false) ∧ Below wo.heap.size wo wr ∧ Slid.St L la lb A B T S f k' ⟨o, d, n, i⟩)
      case atStart => exact ⟨k, o, d, n, i, rfl, hlt, Nat.le_refl _, by simp, by simp, by simp, by simp, fun j => by simp, (Below.refl _ _).alloc (Nat.le_refl _) _, HT⟩
      case round =>
        clear HT
        obtain ⟨k', o', d', n', i', rfl, hkn, hkk, z0, z1, z2, z3, zf, hbo, HT⟩ := hrel
        obtain ⟨f', rfl⟩ := HT.pos
        have hbd := HT.bounds
        simp only at hbd
        obtain ⟨_, _, _, _, v1, v2⟩ := hbd
        have RW : Below w.heap.size w wr := hb.trans (hbo.mono hb.size)
        have hownR := own_below hown hbo
        have hsz := hb.size
        by_cases t1 : d' ≠ 0 ∧ i' ≠ 0
        · have cd : ((d' : Int) == 0) = false := by simp; omega
          have ci : ((i' : Int) == 0) = false := by simp; omega
          have HX := HT.full ⟨by simp; omega, by simp; omega⟩
          clear t1
          go_wp2_with (first | (at_builtin; refine wpList_append_own _ rfl _ _ 33 rfl w.heap.size 39 i0 (.agg #[.int .i64 0, .int .i64 0, .int .i64 0, .int .i64 0]) 4 32 Try.underlying33 hi hz0 hz1 hz2 rfl (by decide) _ S.length (cellsOf S) rfl (by exact hownR.alloc _) ⟨wr.heap.size, 0, none⟩ 1 1 [.int .i64 o', .int .i64 d', .int .i64 n', .int .i64 i'] rfl rfl (by exact cell_four_new _ _ _ _ _ _) (four_one _ _ _ _) (by unfold maxLen; omega) (by omega) (by have := RW.size; simp; omega) ?_; intro v' w1 hown' hgrow _))
          have R := rel_lay (L := L) (A := A) (B := B) (T := T) (S := S) HX hown' hgrow (fun k hk => (hownR.lt k hk).1) (by first | exact RW | exact below_drewN RW _)
          clear hown' hgrow hown hownR HX HT
          go_wp2
          try (rw [Exit.noGoto_normal]; go_wp2)
          go_roundw
          case rel => exact ⟨k' + 1, f', S ++ [⟨o', d', n', i'⟩], by omega, by go_num, by simp; omega, R.1, R.2.1, R.2.2⟩
          case measure => simp [intOf]; omega
        · have h0 : Hid ((d' : Int) = 0 ∨ (i' : Int) = 0) := show _ ∨ _ by omega
          by_cases td : d' = 0
          · have cd : ((d' : Int) == 0) = true := by simp; omega
            have TD : Hid (d' = 0) := td
            clear td t1
            by_cases hk1 : k' + 1 < N
            · have hnx := HT.next_ok (by rw [HN.out]; exact hk1)
              obtain ⟨y0, y1, y2, y3⟩ := hcell (k' + 1) hk1
              obtain ⟨⟨ro, rd, rn, ri⟩, hr⟩ : ∃ e, L.getD (k' + 1) Slid.ed0 = e := ⟨_, rfl⟩
              rw [hr] at y0 y1 y2 y3 hnx
              simp only at y0 y1 y2 y3 hnx
              obtain ⟨n1, n2, n3, n4, n5, n6⟩ := hnx
              obtain ⟨rd, rfl⟩ := Int.eq_ofNat_of_zero_le n1
              obtain ⟨ri, rfl⟩ := Int.eq_ofNat_of_zero_le n2
              obtain ⟨ro, rfl⟩ := Int.eq_ofNat_of_zero_le n5
              obtain ⟨rn, rfl⟩ := Int.eq_ofNat_of_zero_le n6
              have HR : Hid (L.getD (k' + 1) Slid.ed0 = ⟨ro, rd, rn, ri⟩) := hr
              have r0 := (RW.cell (p := ⟨b, off + (k' + 1) * 4, none⟩) hbs).trans y0
              have r1 := (RW.cell (p := ⟨b, off + (k' + 1) * 4 + 1, none⟩) hbs).trans y1
              have r3 := (RW.cell (p := ⟨b, off + (k' + 1) * 4 + 3, none⟩) hbs).trans y3
              clear y0 y1 y2 y3 hr hcell n1 n2 n5 n6
              by_cases tt : (o' : Int) + d' = ro
              · have HX := HT.joined h0.out (by rw [HN.out]; exact hk1) (by rw [HR.out]; exact tt)
                rw [HR.out] at HX
                have tb : ((o' : Int) + d' == ro) = true := by simp [tt]
                clear tt HT hown hownR
                go_wp2
                go_region
                go_wp2
                go_region
                go_wp2
                go_roundg f'
                case measure => omega
                case rel =>
                  obtain ⟨C0, C1, C2, C3⟩ := cells_join (y1 := .int .i64 ((d' : Int) + rd)) (y3 := .int .i64 ((i' : Int) + ri)) z0 z1 z2 z3
                  exact ⟨k' + 1, o', d' + rd, n', i' + ri, by go_num, hk1, by omega, C0, C1, C2, C3, fun j => by simp [zf], (((hbo.setCell (p := ⟨wo.heap.size, 1, none⟩) (Nat.le_refl _) _).drew).setCell (p := ⟨wo.heap.size, 3, none⟩) (Nat.le_refl _) _).drew, HX⟩
              · have ht : ¬ Slid.touchAt L k' ⟨o', d', n', i'⟩ := by rintro ⟨_, h⟩; rw [HR.out] at h; exact tt h
                have ttb : ((o' : Int) + d' == ro) = false := by simp; omega
                clear tt
                by_cases tl : (o' : Int) + d' = la
                · have HX := HT.ended h0.out ht tl
                  have tb : ((o' : Int) + d' == la) = true := by simp [tl]
                  clear tl
                  go_wp2_with (first | (at_builtin; refine wpList_append_own _ rfl _ _ 33 rfl w.heap.size 39 i0 (.agg #[.int .i64 0, .int .i64 0, .int .i64 0, .int .i64 0]) 4 32 Try.underlying33 hi hz0 hz1 hz2 rfl (by decide) _ S.length (cellsOf S) rfl (by exact hownR.alloc _) ⟨wr.heap.size, 0, none⟩ 1 1 [.int .i64 o', .int .i64 d', .int .i64 n', .int .i64 i'] rfl rfl (by exact cell_four_new _ _ _ _ _ _) (four_one _ _ _ _) (by unfold maxLen; omega) (by omega) (by have := RW.size; simp; omega) ?_; intro v' w1 hown' hgrow _))
                  have R := rel_lay (L := L) (A := A) (B := B) (T := T) (S := S) HX hown' hgrow (fun k hk => (hownR.lt k hk).1) (by first | exact RW | exact below_drewN RW _)
                  clear hown' hgrow hown hownR HX HT
                  go_wp2
                  try (rw [Exit.noGoto_normal]; go_wp2)
                  go_roundw
                  case rel => exact ⟨k' + 1, f', S ++ [⟨o', d', n', i'⟩], by omega, by go_num, by simp; omega, R.1, R.2.1, R.2.2⟩
                  case measure => simp [intOf]; omega
                · have hline := HT.line ht tl
                  simp only at hline
                  obtain ⟨l1, l2⟩ := hline
                  have tlb : ((o' : Int) + d' == la) = false := by simp; omega
                  have gd : decide ((0 : Int) < (d' : Int)) = false := decide_eq_false (by have := TD.out; omega)
                  have gd1 : decide (0 < d') = false := decide_eq_false (by have := TD.out; omega)
                  by_cases ti : 0 < i'
                  · have gi : (0 : Int) < (i' : Int) := by omega
                    obtain ⟨x1, y1, rfl, s1, m1⟩ := hB.cell (k := n') (by omega)
                    have m3 : wr.cell? ⟨x1, y1 + n', none⟩ = some (.int .i64 (B n')) := (RW.cell (p := ⟨x1, y1 + n', none⟩) s1).trans (m1 _ (by omega))
                    have m4 : wr.cell? ⟨x1, y1 + (n' + i'), none⟩ = some (.int .i64 (B (n' + i'))) := (RW.cell (p := ⟨x1, y1 + (n' + i'), none⟩) s1).trans (m1 _ (by omega))
                    have j1 : (n' : Int) < lb := by omega
                    have j2 : (n' : Int) + i' < lb := by omega
                    clear m1
                    by_cases tB : B n' = B (n' + i')
                    · have HX := HT.bumped h0.out ht tl (.inr ⟨by simp; omega, by rw [natIdx, natIdx2]; exact tB⟩)
                      have te : (B n' == B (n' + i')) = true := by simp [tB]
                      clear tB tl HT hown hownR
                      generalize B n' = X at *
                      generalize B (n' + i') = Y at *
                      go_wp2_with fail
                      go_quiet (fail)
                      go_wp2_with fail
                      go_quiet (fail)
                      go_wp2
                      go_roundg f'
                      case measure => omega
                      case rel =>
                        obtain ⟨C0, C1, C2, C3⟩ := cells_bump (y0 := .int .i64 ((o' : Int) + 1)) (y2 := .int .i64 ((n' : Int) + 1)) z0 z1 z2 z3
                        exact ⟨k', o' + 1, d', n' + 1, i', rfl, hkn, hkk, C0, C1, C2, C3, fun j => by simp [zf], ((below_drewN hbo _).setCell (p := ⟨wo.heap.size, 0, none⟩) (Nat.le_refl _) _).setCell (p := ⟨wo.heap.size, 2, none⟩) (Nat.le_refl _) _, HX⟩
                    · have HX := HT.stopped h0.out ht tl (by rintro (⟨h, _⟩ | ⟨_, h⟩); (simp at h; have := TD.out; omega); (rw [natIdx, natIdx2] at h; exact tB h))
                      have te : (B n' == B (n' + i')) = false := by simp [tB]
                      clear tB tl
                      generalize B n' = X at *
                      generalize B (n' + i') = Y at *
                      go_wp2_with fail
                      go_quiet (fail)
                      go_wp2_with fail
                      go_quiet (fail)
                      go_wp2_with (first | (at_builtin; refine wpList_append_own _ rfl _ _ 33 rfl w.heap.size 39 i0 (.agg #[.int .i64 0, .int .i64 0, .int .i64 0, .int .i64 0]) 4 32 Try.underlying33 hi hz0 hz1 hz2 rfl (by decide) _ S.length (cellsOf S) rfl (by exact hownR.alloc _) ⟨wr.heap.size, 0, none⟩ 1 1 [.int .i64 o', .int .i64 d', .int .i64 n', .int .i64 i'] rfl rfl (by exact cell_four_new _ _ _ _ _ _) (four_one _ _ _ _) (by unfold maxLen; omega) (by omega) (by have := RW.size; simp; omega) ?_; intro v' w1 hown' hgrow _))
                      have R := rel_lay (L := L) (A := A) (B := B) (T := T) (S := S) HX hown' hgrow (fun k hk => (hownR.lt k hk).1) (by first | exact RW | exact below_drewN RW _)
                      clear hown' hgrow hown hownR HX HT
                      go_wp2
                      try (rw [Exit.noGoto_normal]; go_wp2)
                      go_roundw
                      case rel => exact ⟨k' + 1, f', S ++ [⟨o', d', n', i'⟩], by omega, by go_num, by simp; omega, R.1, R.2.1, R.2.2⟩
                      case measure => simp [intOf]; omega
                  · have HX := HT.stopped h0.out ht tl (by rintro (⟨h, _⟩ | ⟨h, _⟩) <;> (simp at h; have := TD.out; omega))
                    have gi : decide ((0 : Int) < (i' : Int)) = false := decide_eq_false (by omega)
                    have gi1 : decide (0 < i') = false := decide_eq_false (by omega)
                    have TI : Hid (i' = 0) := by show i' = 0; omega
                    clear tl ti
                    go_wp2_with fail
                    go_quiet (fail)
                    go_wp2_with fail
                    go_quiet (fail)
                    go_wp2_with (first | (at_builtin; refine wpList_append_own _ rfl _ _ 33 rfl w.heap.size 39 i0 (.agg #[.int .i64 0, .int .i64 0, .int .i64 0, .int .i64 0]) 4 32 Try.underlying33 hi hz0 hz1 hz2 rfl (by decide) _ S.length (cellsOf S) rfl (by exact hownR.alloc _) ⟨wr.heap.size, 0, none⟩ 1 1 [.int .i64 o', .int .i64 d', .int .i64 n', .int .i64 i'] rfl rfl (by exact cell_four_new _ _ _ _ _ _) (four_one _ _ _ _) (by unfold maxLen; omega) (by omega) (by have := RW.size; simp; omega) ?_; intro v' w1 hown' hgrow _))
                    have R := rel_lay (L := L) (A := A) (B := B) (T := T) (S := S) HX hown' hgrow (fun k hk => (hownR.lt k hk).1) (by first | exact RW | exact below_drewN RW _)
                    clear hown' hgrow hown hownR HX HT
                    go_wp2
                    try (rw [Exit.noGoto_normal]; go_wp2)
                    go_roundw
                    case rel => exact ⟨k' + 1, f', S ++ [⟨o', d', n', i'⟩], by omega, by go_num, by simp; omega, R.1, R.2.1, R.2.2⟩
                    case measure => simp [intOf]; omega
            · have ht : ¬ Slid.touchAt L k' ⟨o', d', n', i'⟩ := by rintro ⟨h, _⟩; rw [HN.out] at h; exact hk1 h
              clear hcell
              by_cases tl : (o' : Int) + d' = la
              · have HX := HT.ended h0.out ht tl
                have tb : ((o' : Int) + d' == la) = true := by simp [tl]
                clear tl
                go_wp2_with (first | (at_builtin; refine wpList_append_own _ rfl _ _ 33 rfl w.heap.size 39 i0 (.agg #[.int .i64 0, .int .i64 0, .int .i64 0, .int .i64 0]) 4 32 Try.underlying33 hi hz0 hz1 hz2 rfl (by decide) _ S.length (cellsOf S) rfl (by exact hownR.alloc _) ⟨wr.heap.size, 0, none⟩ 1 1 [.int .i64 o', .int .i64 d', .int .i64 n', .int .i64 i'] rfl rfl (by exact cell_four_new _ _ _ _ _ _) (four_one _ _ _ _) (by unfold maxLen; omega) (by omega) (by have := RW.size; simp; omega) ?_; intro v' w1 hown' hgrow _))
                have R := rel_lay (L := L) (A := A) (B := B) (T := T) (S := S) HX hown' hgrow (fun k hk => (hownR.lt k hk).1) (by first | exact RW | exact below_drewN RW _)
                clear hown' hgrow hown hownR HX HT
                go_wp2
                try (rw [Exit.noGoto_normal]; go_wp2)
                go_roundw
                case rel => exact ⟨k' + 1, f', S ++ [⟨o', d', n', i'⟩], by omega, by go_num, by simp; omega, R.1, R.2.1, R.2.2⟩
                case measure => simp [intOf]; omega
              · have hline := HT.line ht tl
                simp only at hline
                obtain ⟨l1, l2⟩ := hline
                have tlb : ((o' : Int) + d' == la) = false := by simp; omega
                have gd : decide ((0 : Int) < (d' : Int)) = false := decide_eq_false (by have := TD.out; omega)
                have gd1 : decide (0 < d') = false := decide_eq_false (by have := TD.out; omega)
                by_cases ti : 0 < i'
                · have gi : (0 : Int) < (i' : Int) := by omega
                  obtain ⟨x1, y1, rfl, s1, m1⟩ := hB.cell (k := n') (by omega)
                  have m3 : wr.cell? ⟨x1, y1 + n', none⟩ = some (.int .i64 (B n')) := (RW.cell (p := ⟨x1, y1 + n', none⟩) s1).trans (m1 _ (by omega))
                  have m4 : wr.cell? ⟨x1, y1 + (n' + i'), none⟩ = some (.int .i64 (B (n' + i'))) := (RW.cell (p := ⟨x1, y1 + (n' + i'), none⟩) s1).trans (m1 _ (by omega))
                  have j1 : (n' : Int) < lb := by omega
                  have j2 : (n' : Int) + i' < lb := by omega
                  clear m1
                  by_cases tB : B n' = B (n' + i')
                  · have HX := HT.bumped h0.out ht tl (.inr ⟨by simp; omega, by rw [natIdx, natIdx2]; exact tB⟩)
                    have te : (B n' == B (n' + i')) = true := by simp [tB]
                    clear tB tl HT hown hownR
                    generalize B n' = X at *
                    generalize B (n' + i') = Y at *
                    go_wp2_with fail
                    go_quiet (fail)
                    go_wp2_with fail
                    go_quiet (fail)
                    go_wp2
                    go_roundg f'
                    case measure => omega
                    case rel =>
                      obtain ⟨C0, C1, C2, C3⟩ := cells_bump (y0 := .int .i64 ((o' : Int) + 1)) (y2 := .int .i64 ((n' : Int) + 1)) z0 z1 z2 z3
                      exact ⟨k', o' + 1, d', n' + 1, i', rfl, hkn, hkk, C0, C1, C2, C3, fun j => by simp [zf], ((below_drewN hbo _).setCell (p := ⟨wo.heap.size, 0, none⟩) (Nat.le_refl _) _).setCell (p := ⟨wo.heap.size, 2, none⟩) (Nat.le_refl _) _, HX⟩
                  · have HX := HT.stopped h0.out ht tl (by rintro (⟨h, _⟩ | ⟨_, h⟩); (simp at h; have := TD.out; omega); (rw [natIdx, natIdx2] at h; exact tB h))
                    have te : (B n' == B (n' + i')) = false := by simp [tB]
                    clear tB tl
                    generalize B n' = X at *
                    generalize B (n' + i') = Y at *
                    go_wp2_with fail
                    go_quiet (fail)
                    go_wp2_with fail
                    go_quiet (fail)
                    go_wp2_with (first | (at_builtin; refine wpList_append_own _ rfl _ _ 33 rfl w.heap.size 39 i0 (.agg #[.int .i64 0, .int .i64 0, .int .i64 0, .int .i64 0]) 4 32 Try.underlying33 hi hz0 hz1 hz2 rfl (by decide) _ S.length (cellsOf S) rfl (by exact hownR.alloc _) ⟨wr.heap.size, 0, none⟩ 1 1 [.int .i64 o', .int .i64 d', .int .i64 n', .int .i64 i'] rfl rfl (by exact cell_four_new _ _ _ _ _ _) (four_one _ _ _ _) (by unfold maxLen; omega) (by omega) (by have := RW.size; simp; omega) ?_; intro v' w1 hown' hgrow _))
                    have R := rel_lay (L := L) (A := A) (B := B) (T := T) (S := S) HX hown' hgrow (fun k hk => (hownR.lt k hk).1) (by first | exact RW | exact below_drewN RW _)
                    clear hown' hgrow hown hownR HX HT
                    go_wp2
                    try (rw [Exit.noGoto_normal]; go_wp2)
                    go_roundw
                    case rel => exact ⟨k' + 1, f', S ++ [⟨o', d', n', i'⟩], by omega, by go_num, by simp; omega, R.1, R.2.1, R.2.2⟩
                    case measure => simp [intOf]; omega
                · have HX := HT.stopped h0.out ht tl (by rintro (⟨h, _⟩ | ⟨h, _⟩) <;> (simp at h; have := TD.out; omega))
                  have gi : decide ((0 : Int) < (i' : Int)) = false := decide_eq_false (by omega)
                  have gi1 : decide (0 < i') = false := decide_eq_false (by omega)
                  have TI : Hid (i' = 0) := by show i' = 0; omega
                  clear tl ti
                  go_wp2_with fail
                  go_quiet (fail)
                  go_wp2_with fail
                  go_quiet (fail)
                  go_wp2_with (first | (at_builtin; refine wpList_append_own _ rfl _ _ 33 rfl w.heap.size 39 i0 (.agg #[.int .i64 0, .int .i64 0, .int .i64 0, .int .i64 0]) 4 32 Try.underlying33 hi hz0 hz1 hz2 rfl (by decide) _ S.length (cellsOf S) rfl (by exact hownR.alloc _) ⟨wr.heap.size, 0, none⟩ 1 1 [.int .i64 o', .int .i64 d', .int .i64 n', .int .i64 i'] rfl rfl (by exact cell_four_new _ _ _ _ _ _) (four_one _ _ _ _) (by unfold maxLen; omega) (by omega) (by have := RW.size; simp; omega) ?_; intro v' w1 hown' hgrow _))
                  have R := rel_lay (L := L) (A := A) (B := B) (T := T) (S := S) HX hown' hgrow (fun k hk => (hownR.lt k hk).1) (by first | exact RW | exact below_drewN RW _)
                  clear hown' hgrow hown hownR HX HT
                  go_wp2
                  try (rw [Exit.noGoto_normal]; go_wp2)
                  go_roundw
                  case rel => exact ⟨k' + 1, f', S ++ [⟨o', d', n', i'⟩], by omega, by go_num, by simp; omega, R.1, R.2.1, R.2.2⟩
                  case measure => simp [intOf]; omega
          · have cd : ((d' : Int) == 0) = false := by simp; omega
            have ci : ((i' : Int) == 0) = true := by simp; omega
            have td' : 0 < d' := by omega
            have TI : Hid (i' = 0) := by show i' = 0; omega
            clear td t1
            by_cases hk1 : k' + 1 < N
            · have hnx := HT.next_ok (by rw [HN.out]; exact hk1)
              obtain ⟨y0, y1, y2, y3⟩ := hcell (k' + 1) hk1
              obtain ⟨⟨ro, rd, rn, ri⟩, hr⟩ : ∃ e, L.getD (k' + 1) Slid.ed0 = e := ⟨_, rfl⟩
              rw [hr] at y0 y1 y2 y3 hnx
              simp only at y0 y1 y2 y3 hnx
              obtain ⟨n1, n2, n3, n4, n5, n6⟩ := hnx
              obtain ⟨rd, rfl⟩ := Int.eq_ofNat_of_zero_le n1
              obtain ⟨ri, rfl⟩ := Int.eq_ofNat_of_zero_le n2
              obtain ⟨ro, rfl⟩ := Int.eq_ofNat_of_zero_le n5
              obtain ⟨rn, rfl⟩ := Int.eq_ofNat_of_zero_le n6
              have HR : Hid (L.getD (k' + 1) Slid.ed0 = ⟨ro, rd, rn, ri⟩) := hr
              have r0 := (RW.cell (p := ⟨b, off + (k' + 1) * 4, none⟩) hbs).trans y0
              have r1 := (RW.cell (p := ⟨b, off + (k' + 1) * 4 + 1, none⟩) hbs).trans y1
              have r3 := (RW.cell (p := ⟨b, off + (k' + 1) * 4 + 3, none⟩) hbs).trans y3
              clear y0 y1 y2 y3 hr hcell n1 n2 n5 n6
              by_cases tt : (o' : Int) + d' = ro
              · have HX := HT.joined h0.out (by rw [HN.out]; exact hk1) (by rw [HR.out]; exact tt)
                rw [HR.out] at HX
                have tb : ((o' : Int) + d' == ro) = true := by simp [tt]
                clear tt HT hown hownR
                go_wp2
                go_region
                go_wp2
                go_region
                go_wp2
                go_roundg f'
                case measure => omega
                case rel =>
                  obtain ⟨C0, C1, C2, C3⟩ := cells_join (y1 := .int .i64 ((d' : Int) + rd)) (y3 := .int .i64 ((i' : Int) + ri)) z0 z1 z2 z3
                  exact ⟨k' + 1, o', d' + rd, n', i' + ri, by go_num, hk1, by omega, C0, C1, C2, C3, fun j => by simp [zf], (((hbo.setCell (p := ⟨wo.heap.size, 1, none⟩) (Nat.le_refl _) _).drew).setCell (p := ⟨wo.heap.size, 3, none⟩) (Nat.le_refl _) _).drew, HX⟩
              · have ht : ¬ Slid.touchAt L k' ⟨o', d', n', i'⟩ := by rintro ⟨_, h⟩; rw [HR.out] at h; exact tt h
                have ttb : ((o' : Int) + d' == ro) = false := by simp; omega
                clear tt
                by_cases tl : (o' : Int) + d' = la
                · have HX := HT.ended h0.out ht tl
                  have tb : ((o' : Int) + d' == la) = true := by simp [tl]
                  clear tl
                  go_wp2_with (first | (at_builtin; refine wpList_append_own _ rfl _ _ 33 rfl w.heap.size 39 i0 (.agg #[.int .i64 0, .int .i64 0, .int .i64 0, .int .i64 0]) 4 32 Try.underlying33 hi hz0 hz1 hz2 rfl (by decide) _ S.length (cellsOf S) rfl (by exact hownR.alloc _) ⟨wr.heap.size, 0, none⟩ 1 1 [.int .i64 o', .int .i64 d', .int .i64 n', .int .i64 i'] rfl rfl (by exact cell_four_new _ _ _ _ _ _) (four_one _ _ _ _) (by unfold maxLen; omega) (by omega) (by have := RW.size; simp; omega) ?_; intro v' w1 hown' hgrow _))
                  have R := rel_lay (L := L) (A := A) (B := B) (T := T) (S := S) HX hown' hgrow (fun k hk => (hownR.lt k hk).1) (by first | exact RW | exact below_drewN RW _)
                  clear hown' hgrow hown hownR HX HT
                  go_wp2
                  try (rw [Exit.noGoto_normal]; go_wp2)
                  go_roundw
                  case rel => exact ⟨k' + 1, f', S ++ [⟨o', d', n', i'⟩], by omega, by go_num, by simp; omega, R.1, R.2.1, R.2.2⟩
                  case measure => simp [intOf]; omega
                · have hline := HT.line ht tl
                  simp only at hline
                  obtain ⟨l1, l2⟩ := hline
                  have tlb : ((o' : Int) + d' == la) = false := by simp; omega
                  have gd : (0 : Int) < (d' : Int) := by omega
                  obtain ⟨x1, y1, rfl, s1, m1⟩ := hA.cell (k := o') (by omega)
                  have m3 : wr.cell? ⟨x1, y1 + o', none⟩ = some (.int .i64 (A o')) := (RW.cell (p := ⟨x1, y1 + o', none⟩) s1).trans (m1 _ (by omega))
                  have m4 : wr.cell? ⟨x1, y1 + (o' + d'), none⟩ = some (.int .i64 (A (o' + d'))) := (RW.cell (p := ⟨x1, y1 + (o' + d'), none⟩) s1).trans (m1 _ (by omega))
                  have j1 : (o' : Int) < la := by omega
                  have j2 : (o' : Int) + d' < la := by omega
                  clear m1
                  by_cases tA : A o' = A (o' + d')
                  · have HX := HT.bumped h0.out ht tl (.inl ⟨by simp; omega, by rw [natIdx, natIdx2]; exact tA⟩)
                    have te : (A o' == A (o' + d')) = true := by simp [tA]
                    clear tA tl HT hown hownR
                    generalize A o' = X at *
                    generalize A (o' + d') = Y at *
                    go_wp2_with fail
                    go_quiet (fail)
                    go_wp2
                    go_roundg f'
                    case measure => omega
                    case rel =>
                      obtain ⟨C0, C1, C2, C3⟩ := cells_bump (y0 := .int .i64 ((o' : Int) + 1)) (y2 := .int .i64 ((n' : Int) + 1)) z0 z1 z2 z3
                      exact ⟨k', o' + 1, d', n' + 1, i', rfl, hkn, hkk, C0, C1, C2, C3, fun j => by simp [zf], ((below_drewN hbo _).setCell (p := ⟨wo.heap.size, 0, none⟩) (Nat.le_refl _) _).setCell (p := ⟨wo.heap.size, 2, none⟩) (Nat.le_refl _) _, HX⟩
                  · have HX := HT.stopped h0.out ht tl (by rintro (⟨_, h⟩ | ⟨h, _⟩); (rw [natIdx, natIdx2] at h; exact tA h); (simp at h; have := TI.out; omega))
                    have te : (A o' == A (o' + d')) = false := by simp [tA]
                    have gi : decide ((0 : Int) < (i' : Int)) = false := decide_eq_false (by have := TI.out; omega)
                    have gi1 : decide (0 < i') = false := decide_eq_false (by have := TI.out; omega)
                    clear tA tl
                    generalize A o' = X at *
                    generalize A (o' + d') = Y at *
                    go_wp2_with fail
                    go_quiet (fail)
                    go_wp2_with fail
                    go_quiet (fail)
                    go_wp2_with (first | (at_builtin; refine wpList_append_own _ rfl _ _ 33 rfl w.heap.size 39 i0 (.agg #[.int .i64 0, .int .i64 0, .int .i64 0, .int .i64 0]) 4 32 Try.underlying33 hi hz0 hz1 hz2 rfl (by decide) _ S.length (cellsOf S) rfl (by exact hownR.alloc _) ⟨wr.heap.size, 0, none⟩ 1 1 [.int .i64 o', .int .i64 d', .int .i64 n', .int .i64 i'] rfl rfl (by exact cell_four_new _ _ _ _ _ _) (four_one _ _ _ _) (by unfold maxLen; omega) (by omega) (by have := RW.size; simp; omega) ?_; intro v' w1 hown' hgrow _))
                    have R := rel_lay (L := L) (A := A) (B := B) (T := T) (S := S) HX hown' hgrow (fun k hk => (hownR.lt k hk).1) (by first | exact RW | exact below_drewN RW _)
                    clear hown' hgrow hown hownR HX HT
                    go_wp2
                    try (rw [Exit.noGoto_normal]; go_wp2)
                    go_roundw
                    case rel => exact ⟨k' + 1, f', S ++ [⟨o', d', n', i'⟩], by omega, by go_num, by simp; omega, R.1, R.2.1, R.2.2⟩
                    case measure => simp [intOf]; omega
            · have ht : ¬ Slid.touchAt L k' ⟨o', d', n', i'⟩ := by rintro ⟨h, _⟩; rw [HN.out] at h; exact hk1 h
              clear hcell
              by_cases tl : (o' : Int) + d' = la
              · have HX := HT.ended h0.out ht tl
                have tb : ((o' : Int) + d' == la) = true := by simp [tl]
                clear tl
                go_wp2_with (first | (at_builtin; refine wpList_append_own _ rfl _ _ 33 rfl w.heap.size 39 i0 (.agg #[.int .i64 0, .int .i64 0, .int .i64 0, .int .i64 0]) 4 32 Try.underlying33 hi hz0 hz1 hz2 rfl (by decide) _ S.length (cellsOf S) rfl (by exact hownR.alloc _) ⟨wr.heap.size, 0, none⟩ 1 1 [.int .i64 o', .int .i64 d', .int .i64 n', .int .i64 i'] rfl rfl (by exact cell_four_new _ _ _ _ _ _) (four_one _ _ _ _) (by unfold maxLen; omega) (by omega) (by have := RW.size; simp; omega) ?_; intro v' w1 hown' hgrow _))
                have R := rel_lay (L := L) (A := A) (B := B) (T := T) (S := S) HX hown' hgrow (fun k hk => (hownR.lt k hk).1) (by first | exact RW | exact below_drewN RW _)
                clear hown' hgrow hown hownR HX HT
                go_wp2
                try (rw [Exit.noGoto_normal]; go_wp2)
                go_roundw
                case rel => exact ⟨k' + 1, f', S ++ [⟨o', d', n', i'⟩], by omega, by go_num, by simp; omega, R.1, R.2.1, R.2.2⟩
                case measure => simp [intOf]; omega
              · have hline := HT.line ht tl
                simp only at hline
                obtain ⟨l1, l2⟩ := hline
                have tlb : ((o' : Int) + d' == la) = false := by simp; omega
                have gd : (0 : Int) < (d' : Int) := by omega
                obtain ⟨x1, y1, rfl, s1, m1⟩ := hA.cell (k := o') (by omega)
                have m3 : wr.cell? ⟨x1, y1 + o', none⟩ = some (.int .i64 (A o')) := (RW.cell (p := ⟨x1, y1 + o', none⟩) s1).trans (m1 _ (by omega))
                have m4 : wr.cell? ⟨x1, y1 + (o' + d'), none⟩ = some (.int .i64 (A (o' + d'))) := (RW.cell (p := ⟨x1, y1 + (o' + d'), none⟩) s1).trans (m1 _ (by omega))
                have j1 : (o' : Int) < la := by omega
                have j2 : (o' : Int) + d' < la := by omega
                clear m1
                by_cases tA : A o' = A (o' + d')
                · have HX := HT.bumped h0.out ht tl (.inl ⟨by simp; omega, by rw [natIdx, natIdx2]; exact tA⟩)
                  have te : (A o' == A (o' + d')) = true := by simp [tA]
                  clear tA tl HT hown hownR
                  generalize A o' = X at *
                  generalize A (o' + d') = Y at *
                  go_wp2_with fail
                  go_quiet (fail)
                  go_wp2
                  go_roundg f'
                  case measure => omega
                  case rel =>
                    obtain ⟨C0, C1, C2, C3⟩ := cells_bump (y0 := .int .i64 ((o' : Int) + 1)) (y2 := .int .i64 ((n' : Int) + 1)) z0 z1 z2 z3
                    exact ⟨k', o' + 1, d', n' + 1, i', rfl, hkn, hkk, C0, C1, C2, C3, fun j => by simp [zf], ((below_drewN hbo _).setCell (p := ⟨wo.heap.size, 0, none⟩) (Nat.le_refl _) _).setCell (p := ⟨wo.heap.size, 2, none⟩) (Nat.le_refl _) _, HX⟩
                · have HX := HT.stopped h0.out ht tl (by rintro (⟨_, h⟩ | ⟨h, _⟩); (rw [natIdx, natIdx2] at h; exact tA h); (simp at h; have := TI.out; omega))
                  have te : (A o' == A (o' + d')) = false := by simp [tA]
                  have gi : decide ((0 : Int) < (i' : Int)) = false := decide_eq_false (by have := TI.out; omega)
                  have gi1 : decide (0 < i') = false := decide_eq_false (by have := TI.out; omega)
                  clear tA tl
                  generalize A o' = X at *
                  generalize A (o' + d') = Y at *
                  go_wp2_with fail
                  go_quiet (fail)
                  go_wp2_with fail
                  go_quiet (fail)
                  go_wp2_with (first | (at_builtin; refine wpList_append_own _ rfl _ _ 33 rfl w.heap.size 39 i0 (.agg #[.int .i64 0, .int .i64 0, .int .i64 0, .int .i64 0]) 4 32 Try.underlying33 hi hz0 hz1 hz2 rfl (by decide) _ S.length (cellsOf S) rfl (by exact hownR.alloc _) ⟨wr.heap.size, 0, none⟩ 1 1 [.int .i64 o', .int .i64 d', .int .i64 n', .int .i64 i'] rfl rfl (by exact cell_four_new _ _ _ _ _ _) (four_one _ _ _ _) (by unfold maxLen; omega) (by omega) (by have := RW.size; simp; omega) ?_; intro v' w1 hown' hgrow _))
                  have R := rel_lay (L := L) (A := A) (B := B) (T := T) (S := S) HX hown' hgrow (fun k hk => (hownR.lt k hk).1) (by first | exact RW | exact below_drewN RW _)
                  clear hown' hgrow hown hownR HX HT
                  go_wp2
                  try (rw [Exit.noGoto_normal]; go_wp2)
                  go_roundw
                  case rel => exact ⟨k' + 1, f', S ++ [⟨o', d', n', i'⟩], by omega, by go_num, by simp; omega, R.1, R.2.1, R.2.2⟩
                  case measure => simp [intOf]; omega
    · have HD := HS.done (by have := HN.out; omega)
      go_wp2
      go_ret
      subst HD
      obtain ⟨a, c, rfl, hrow⟩ := erow_of_own hown
      exact ⟨a, c, rfl, hrow, hb⟩
end Go.Proofs.Qxb6602961a
