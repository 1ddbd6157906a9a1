/-
  THE WALKS of the small functions on the road: the length bound (18), the copies (8, 14).
-/
import Derived.Test.Qxb6602961aRows
import Derived.ProofKit
import Derived.RegionTactic
import Derived.BigRegion
import Derived.ChangeAlike
import Derived.Deep.QuietTactic
import Derived.BigQuiet
import Derived.LoopTactic
import Derived.WalkSpells
import Derived.WalkLawsBesides
import Derived.Test.Qxb6602961aBase
namespace Go.Proofs.Qxb6602961a
open Go.RowKit Zz

theorem info39 : (Try.prog.info? 39).map (fun i => (i.zero, i.size, i.bytes)) = some (some (.agg #[.int .i64 0, .int .i64 0, .int .i64 0, .int .i64 0]), 4, 32) := by kernel_rfl
theorem info3 : (Try.prog.info? 3).map (fun i => (i.zero, i.size, i.bytes)) = some (some (.int .i64 0), 1, 8) := by kernel_rfl

theorem bytes_any (a0 a1 a2 : Option Addr) (n0 n1 n2 c0 c1 c2 : Nat) (w : World) (h0 : n0 ≤ maxLen) (h1 : n1 ≤ maxLen) (h2 : n2 ≤ maxLen) :
    Calls Try.prog 18 #[.slice a0 n0 c0, .slice a1 n1 c1, .slice a2 n2 c2] w fun e w' => (∃ b, e = .returned (.bool b)) ∧ w' = w := by
  unfold maxLen at h0 h1 h2
  go_enter Try.func18, Try.ntmps18
  go_wp2
  all_goals (go_ret; exact ⟨⟨_, rfl⟩, rfl⟩)

/-- 'zzCopyInts': the same numbers, in new memory. -/
theorem copyInts_any (a : Option Addr) (n c : Nat) (Z : Nat → Int) (w : World) (hn : n ≤ 32768) (ha : a = none → n = 0 ∧ c = 0) (hr : VRow w a n (fun i => .int .i64 (Z i))) :
    Calls Try.prog 8 #[.slice a n c] w fun e w' => RetV w n (fun i => .int .i64 (Z i)) e w' := by
  have q22 : ∀ (w : World) (a : Option Addr) (n c n' c' : Nat), (binOp .eql 22 (.slice a n c) (.slice none n' c')).run Try.prog w = .ok (.bool a.isNone) w := fun w a n c n' c' => Lib.run_eql_slice_nil w _ _ a n c n' c' Try.underlying22
  cases a with
  | none =>
    obtain ⟨rfl, rfl⟩ := ha rfl
    go_enter Try.func8, Try.ntmps8
    go_wp2
    go_ret
    exact ⟨none, 0, rfl, fun _ => rfl, .inl rfl, Below.refl _ _⟩
  | some a =>
    clear ha
    have hmk := run_make_row' (P := Try.prog) 22 3 (.int .i64 0) 8 Try.underlying22 info3 rfl .i64 .i64 n (by omega) (by omega)
    go_enter Try.func8, Try.ntmps8
    go_wp2
    clear hmk q22
    go_loopw [4] (fun i wr => ∃ k : Nat, k ≤ n ∧ i = .int .i64 k ∧ wr.rowIs w.heap.size 3 n (fun j => if j < k then .int .i64 (Z j) else .int .i64 0) ∧ Below w.heap.size w wr) (fun i _ => n - (intOf i).toNat)
    case atStart => exact ⟨0, Nat.zero_le _, rfl, (World.rowIs_made w (.int .i64 0) n 3).congr (fun i _ => by simp), (Below.refl _ _).alloc (Nat.le_refl _) _⟩
    case round =>
      obtain ⟨k, hk, rfl, hrow, hb⟩ := hrel
      by_cases hlt : k < n
      · obtain ⟨b, off, ha, hbs, hcell⟩ := hr.cell hlt
        simp only [Option.some.injEq] at ha
        subst ha
        have g0 : wr.cell? ⟨b, off + k, none⟩ = some (.int .i64 (Z k)) := (hb.cell (p := ⟨b, off + k, none⟩) hbs).trans (hcell k hlt)
        have e0 : wr.cell? ⟨w.heap.size, k, none⟩ = some (.int .i64 0) := by have := hrow.cell hlt; simpa using this
        have f0 := hrow.frozen k
        have R1 : (wr.setCell ⟨w.heap.size, k, none⟩ (.int .i64 (Z k))).rowIs w.heap.size 3 n (fun j => if j < k + 1 then .int .i64 (Z j) else .int .i64 0) := (hrow.set k (.int .i64 (Z k))).congr (fun i _ => by
          by_cases e : i = k
          · subst e; simp
          · by_cases e2 : i < k
            · simp [e, e2, show i < k + 1 by omega]
            · simp [e, e2, show ¬ i < k + 1 by omega])
        have R2 := hb.setCell (p := ⟨w.heap.size, k, none⟩) (Nat.le_refl _) (.int .i64 (Z k))
        clear hcell hrow hb hr
        go_wp2
        go_roundw
        case rel => exact ⟨k + 1, by omega, by go_num, R1, R2⟩
        case measure => simp [intOf]; omega
      · go_wp2
        go_ret
        exact ⟨some ⟨w.heap.size, 0, none⟩, n, rfl, fun h => (by cases h), vrow_of_row (hrow.congr (fun i hi => by simp [show i < k by omega])), hb⟩

/-- 'zzToEdits': the same edits, in new memory. -/
theorem toEdits_any (a : Option Addr) (n c : Nat) (E : Nat → Slid.Ed) (w : World) (hn : n ≤ 8192) (hr : ERow w a n E) :
    Calls Try.prog 14 #[.slice a n c] w fun e w' => RetE w n E e w' := by
  obtain ⟨i0, hi, hz0, hz1, hz2⟩ := info_parts info39
  go_enter Try.func14, Try.ntmps14
  go_wp2_with (first | (at_make; refine wpList_make_full _ rfl _ _ 33 rfl w.heap.size 39 i0 _ 4 Try.underlying33 hi hz0 hz1 _ _ _ _ n rfl rfl rfl rfl (by rw [hz2]; omega) (by unfold maxLen; omega) (Nat.le_refl _) ?_; intro w1 hown hgrow))
  clear hi hz0 hz1 hz2
  go_loopw [4] (fun i wr => ∃ k : Nat, k ≤ n ∧ i = .int .i64 k ∧ (∃ F : Nat → Value, wr.rowIs w.heap.size 39 (n * 4) F ∧ ∀ i, i < k → F (i * 4) = .int .i64 (E i).o ∧ F (i * 4 + 1) = .int .i64 (E i).d ∧ F (i * 4 + 2) = .int .i64 (E i).n ∧ F (i * 4 + 3) = .int .i64 (E i).i) ∧ Below w.heap.size w wr) (fun i _ => n - (intOf i).toNat)
  case atStart => exact ⟨0, Nat.zero_le _, rfl, ⟨_, row_of_own hown, fun i hi => absurd hi (Nat.not_lt_zero _)⟩, below_of_grown hgrow⟩
  case round =>
    obtain ⟨k, hk, rfl, ⟨F, hrow, hF⟩, hb⟩ := hrel
    clear hown hgrow
    by_cases hlt : k < n
    · obtain ⟨b, off, rfl, hbs, hcell⟩ := hr.cell hlt
      obtain ⟨c0, c1, c2, c3⟩ := hcell k hlt
      obtain ⟨o, ho⟩ : ∃ o, (E k).o = o := ⟨_, rfl⟩
      obtain ⟨d, hd⟩ : ∃ o, (E k).d = o := ⟨_, rfl⟩
      obtain ⟨nn, hnn⟩ : ∃ o, (E k).n = o := ⟨_, rfl⟩
      obtain ⟨ii, hii⟩ : ∃ o, (E k).i = o := ⟨_, rfl⟩
      rw [ho] at c0
      rw [hd] at c1
      rw [hnn] at c2
      rw [hii] at c3
      have g0 := (hb.cell (p := ⟨b, off + k * 4, none⟩) hbs).trans c0
      have g1 := (hb.cell (p := ⟨b, off + k * 4 + 1, none⟩) hbs).trans c1
      have g2 := (hb.cell (p := ⟨b, off + k * 4 + 2, none⟩) hbs).trans c2
      have g3 := (hb.cell (p := ⟨b, off + k * 4 + 3, none⟩) hbs).trans c3
      have e0 := hrow.cell (i := k * 4) (by omega)
      have e1 := hrow.cell (i := k * 4 + 1) (by omega)
      have e2 := hrow.cell (i := k * 4 + 2) (by omega)
      have e3 := hrow.cell (i := k * 4 + 3) (by omega)
      have f0 := hrow.frozen (k * 4)
      have f1 := hrow.frozen (k * 4 + 1)
      have f2 := hrow.frozen (k * 4 + 2)
      have f3 := hrow.frozen (k * 4 + 3)
      have hki : (k : Int) < (n : Int) := by omega
      have R1 := (((hrow.set (k * 4) (.int .i64 o)).set (k * 4 + 1) (.int .i64 d)).set (k * 4 + 2) (.int .i64 nn)).set (k * 4 + 3) (.int .i64 ii)
      have R2 := (((hb.setCell (p := ⟨w.heap.size, k * 4, none⟩) (Nat.le_refl _) (.int .i64 o)).setCell (p := ⟨w.heap.size, k * 4 + 1, none⟩) (Nat.le_refl _) (.int .i64 d)).setCell (p := ⟨w.heap.size, k * 4 + 2, none⟩) (Nat.le_refl _) (.int .i64 nn)).setCell (p := ⟨w.heap.size, k * 4 + 3, none⟩) (Nat.le_refl _) (.int .i64 ii)
      have HR : Hid (∃ G : Nat → Value, ((((wr.setCell ⟨w.heap.size, k * 4, none⟩ (.int .i64 o)).setCell ⟨w.heap.size, k * 4 + 1, none⟩ (.int .i64 d)).setCell ⟨w.heap.size, k * 4 + 2, none⟩ (.int .i64 nn)).setCell ⟨w.heap.size, k * 4 + 3, none⟩ (.int .i64 ii)).rowIs w.heap.size 39 (n * 4) G ∧
          ∀ i, i < k + 1 → G (i * 4) = .int .i64 (E i).o ∧ G (i * 4 + 1) = .int .i64 (E i).d ∧ G (i * 4 + 2) = .int .i64 (E i).n ∧ G (i * 4 + 3) = .int .i64 (E i).i) := by
        refine ⟨_, R1, fun i hi => ?_⟩
        by_cases e : i = k
        · subst e
          refine ⟨?_, ?_, ?_, ?_⟩ <;> simp [ho, hd, hnn, hii]
        · obtain ⟨q0, q1, q2, q3⟩ := hF i (by omega)
          refine ⟨?_, ?_, ?_, ?_⟩
          · rw [if_neg (by omega), if_neg (by omega), if_neg (by omega), if_neg (by omega)]; exact q0
          · rw [if_neg (by omega), if_neg (by omega), if_neg (by omega), if_neg (by omega)]; exact q1
          · rw [if_neg (by omega), if_neg (by omega), if_neg (by omega), if_neg (by omega)]; exact q2
          · rw [if_neg (by omega), if_neg (by omega), if_neg (by omega), if_neg (by omega)]; exact q3
      clear hcell hrow hF hb hr c0 c1 c2 c3 ho hd hnn hii R1
      go_wp2
      go_region
      go_wp2
      go_roundw
      case rel =>
        obtain ⟨G, r1, r2⟩ := HR.out
        exact ⟨k + 1, by omega, by go_num, ⟨G, r1.drew, r2⟩, R2.drew⟩
      case measure => simp [intOf]; omega
    · go_wp2
      go_ret
      refine ⟨some ⟨w.heap.size, 0, none⟩, n, rfl, .inr ⟨w.heap.size, 0, rfl, hrow.lt, fun i hi => ?_⟩, hb⟩
      obtain ⟨q0, q1, q2, q3⟩ := hF i (by omega)
      rw [Nat.zero_add, ← q0, ← q1, ← q2, ← q3]
      exact ⟨hrow.cell (by omega), hrow.cell (by omega), hrow.cell (by omega), hrow.cell (by omega)⟩
end Go.Proofs.Qxb6602961a
