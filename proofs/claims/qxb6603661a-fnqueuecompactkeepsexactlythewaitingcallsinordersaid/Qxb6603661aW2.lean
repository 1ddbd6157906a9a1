/-
  THE WALKS of ZZNewQueue (14) and of reindex (31, 15).
-/
import Derived.Test.Qxb6603661aW1
import Derived.Maps.Own
namespace Go.Proofs.Qxb6603661a
open Go.RowKit Zz Ring Go.Maps

/-- The queue's five cells. -/
def qc (v : Value) (h o : Int) (i : Value) (a : Bool) (j : Nat) : Value := [v, .int .i64 h, .int .i64 o, i, .bool a].getD j (.bool false)

theorem made_mc (n : Nat) : ∀ j, j < n * 6 → (madeCells (Value.agg #[.int .u64 0, .int .u64 0, .string ByteArray.empty, .nilFunc, .nilFunc, .int .i64 0]).cells (n * 6)).toList.getD j (.int .i64 0) = mc (fun _ => zm) j := by
  intro j hj
  have hz : (Value.agg #[.int .u64 0, .int .u64 0, .string ByteArray.empty, .nilFunc, .nilFunc, .int .i64 0]).cells = #[.int .u64 0, .int .u64 0, .string ByteArray.empty, .nilFunc, .nilFunc, .int .i64 0] := rfl
  rw [hz]
  have h6 : j % 6 < 6 := Nat.mod_lt _ (by omega)
  simp [madeCells, hj, mc, mcells, zm]
  obtain h | h | h | h | h | h : j % 6 = 0 ∨ j % 6 = 1 ∨ j % 6 = 2 ∨ j % 6 = 3 ∨ j % 6 = 4 ∨ j % 6 = 5 := by omega
  all_goals (rw [h]; rfl)

/-- One call stored whole. -/
theorem six_set {w : World} {g t n : Nat} {M : Nat → Mk} (h : w.rowIs g t (n * 6) (mc M)) (k : Nat) (x : Mk) :
    ((((((w.setCell ⟨g, k * 6, none⟩ (.int .u64 x.s)).setCell ⟨g, k * 6 + 1, none⟩ (.int .u64 x.k)).setCell ⟨g, k * 6 + 2, none⟩ (.string x.a)).setCell ⟨g, k * 6 + 3, none⟩ .nilFunc).setCell ⟨g, k * 6 + 4, none⟩ .nilFunc).setCell ⟨g, k * 6 + 5, none⟩ (.int .i64 x.d)).rowIs g t (n * 6) (mc fun j => if j = k then x else M j) := by
  refine ((((((h.set (k * 6) _).set (k * 6 + 1) _).set (k * 6 + 2) _).set (k * 6 + 3) _).set (k * 6 + 4) _).set (k * 6 + 5) _).congr (fun j _ => ?_)
  unfold mc
  dsimp only
  by_cases hk : j / 6 = k
  · rw [if_pos hk]
    obtain h | h | h | h | h | h : j % 6 = 0 ∨ j % 6 = 1 ∨ j % 6 = 2 ∨ j % 6 = 3 ∨ j % 6 = 4 ∨ j % 6 = 5 := by omega
    · rw [if_neg (by omega), if_neg (by omega), if_neg (by omega), if_neg (by omega), if_neg (by omega), if_pos (by omega), h]; rfl
    · rw [if_neg (by omega), if_neg (by omega), if_neg (by omega), if_neg (by omega), if_pos (by omega), h]; rfl
    · rw [if_neg (by omega), if_neg (by omega), if_neg (by omega), if_pos (by omega), h]; rfl
    · rw [if_neg (by omega), if_neg (by omega), if_pos (by omega), h]; rfl
    · rw [if_neg (by omega), if_pos (by omega), h]; rfl
    · rw [if_pos (by omega), h]; rfl
  · rw [if_neg hk, if_neg (by omega), if_neg (by omega), if_neg (by omega), if_neg (by omega), if_neg (by omega), if_neg (by omega)]

def RetQ (w : World) (n : Nat) (M : Nat → Mk) (h o : Int) (ar : Bool) (e : Ending) (w' : World) : Prop := ∃ gb gq, e = .returned (.pointer (some ⟨gq, 0, none⟩)) ∧ w.heap.size ≤ gb ∧ w.heap.size ≤ gq ∧ gb ≠ gq ∧
  w'.rowIs gb 55 (n * 6) (mc M) ∧ w'.rowIs gq 58 5 (qc (.slice (some ⟨gb, 0, none⟩) n n) h o (.pointer none) ar) ∧ Below w.heap.size w w'

set_option maxHeartbeats 1000000 in
theorem newQueue_any (a0 a1 a2 a3 : Option Addr) (n c0 c1 c2 c3 : Nat) (h o : Int) (ar : Bool) (M : Nat → Mk) (w : World) (hn : n ≤ 32768)
    (hS : VRow w a0 n (fun i => .int .u64 (M i).s)) (hD : VRow w a1 n (fun i => .int .i64 (M i).d)) (hK : VRow w a2 n (fun i => .int .u64 (M i).k)) (hA : VRow w a3 n (fun i => .string (M i).a)) :
    Calls Try.prog 14 #[.slice a0 n c0, .slice a1 n c1, .slice a2 n c2, .slice a3 n c3, .int .i64 h, .int .i64 o, .bool ar] w fun e w' => RetQ w n M h o ar e w' := by
  obtain ⟨i0, hi, hz0, hz1, hz2⟩ := info_parts info55
  go_enter Try.func14, Try.ntmps14
  go_wp2_with (first | (at_make; refine wpList_make_full _ rfl _ _ 36 rfl w.heap.size 55 i0 _ 6 Try.underlying36 hi hz0 hz1 _ _ _ _ n rfl rfl rfl rfl (by rw [hz2]; omega) (by unfold maxLen; omega) (Nat.le_refl _) ?_; intro w1 hown hgrow))
  clear hi hz0 hz1 hz2
  go_loopw [16] (fun i wr => ∃ k : Nat, k ≤ n ∧ i = .int .i64 k ∧ wr.rowIs w.heap.size 55 (n * 6) (mc fun j => if j < k then M j else zm) ∧ Below w.heap.size w wr) (fun i _ => n - (intOf i).toNat)
  case atStart => exact ⟨0, Nat.zero_le _, rfl, (row_of_own hown).congr (fun j hj => by rw [made_mc n j hj]; simp), below_of_grown hgrow⟩
  case round =>
    obtain ⟨k, hk, rfl, hrow, hb⟩ := hrel
    clear hown hgrow
    by_cases hlt : k < n
    · obtain ⟨b0, o0, rfl, s0, m0⟩ := hS.cell hlt
      obtain ⟨b1, o1, rfl, s1, m1⟩ := hD.cell hlt
      obtain ⟨b2, o2, rfl, s2, m2⟩ := hK.cell hlt
      obtain ⟨b3, o3, rfl, s3, m3⟩ := hA.cell hlt
      have g0 := (hb.cell (p := ⟨b0, o0 + k, none⟩) s0).trans (m0 k hlt)
      have g1 := (hb.cell (p := ⟨b1, o1 + k, none⟩) s1).trans (m1 k hlt)
      have g2 := (hb.cell (p := ⟨b2, o2 + k, none⟩) s2).trans (m2 k hlt)
      have g3 := (hb.cell (p := ⟨b3, o3 + k, none⟩) s3).trans (m3 k hlt)
      obtain ⟨x, hx⟩ : ∃ x, M k = x := ⟨_, rfl⟩
      simp only [hx] at g0 g1 g2 g3
      have Z := six_of_row hrow hlt
      have z0 := Z.c0
      have z1 := Z.c1
      have z2 := Z.c2
      have z3 := Z.c3
      have z4 := Z.c4
      have z5 := Z.c5
      have f0 := hrow.frozen (k * 6)
      have f1 := hrow.frozen (k * 6 + 1)
      have f2 := hrow.frozen (k * 6 + 2)
      have f3 := hrow.frozen (k * 6 + 3)
      have f4 := hrow.frozen (k * 6 + 4)
      have f5 := hrow.frozen (k * 6 + 5)
      have hki : (k : Int) < (n : Int) := by omega
      have R1 := (six_set hrow k x).congr (g := mc fun j => if j < k + 1 then M j else zm) (fun j hj => by
        refine mc_congr (n := n) (fun i hi => ?_) j hj
        by_cases e : i = k
        · subst e; simp [hx]
        · by_cases e2 : i < k
          · simp [e, e2, show i < k + 1 by omega]
          · simp [e, e2, show ¬ i < k + 1 by omega])
      have R2 := (((((hb.setCell (p := ⟨w.heap.size, k * 6, none⟩) (Nat.le_refl _) (.int .u64 x.s)).setCell (p := ⟨w.heap.size, k * 6 + 1, none⟩) (Nat.le_refl _) (.int .u64 x.k)).setCell (p := ⟨w.heap.size, k * 6 + 2, none⟩) (Nat.le_refl _) (.string x.a)).setCell (p := ⟨w.heap.size, k * 6 + 3, none⟩) (Nat.le_refl _) .nilFunc).setCell (p := ⟨w.heap.size, k * 6 + 4, none⟩) (Nat.le_refl _) .nilFunc).setCell (p := ⟨w.heap.size, k * 6 + 5, none⟩) (Nat.le_refl _) (.int .i64 x.d)
      have HR1 := hide R1
      obtain ⟨xs, xk, xa, xd⟩ := x
      simp only at g0 g1 g2 g3 R2
      clear m0 m1 m2 m3 hrow hb hS hD hK hA Z hx R1
      go_wp2
      go_region
      go_wp2
      go_roundw
      case rel => exact ⟨k + 1, by omega, by go_num, HR1.out.drew, R2.drew⟩
      case measure => simp [intOf]; omega
    · go_wp2
      go_ret
      refine ⟨w.heap.size, wr.heap.size, rfl, Nat.le_refl _, hb.size, ?_, ?_, ?_, hb.alloc hb.size _⟩
      · have := hrow.lt; omega
      · exact (hrow.alloc _).congr (mc_congr fun i hi => by simp [show i < k by omega])
      · exact World.rowIs_alloc wr #[.slice (some ⟨w.heap.size, 0, none⟩) n n, .int .i64 h, .int .i64 o, .pointer none, .bool ar] 58 _ (fun i hi => by
          match i, hi with
          | 0, _ => rfl
          | 1, _ => rfl
          | 2, _ => rfl
          | 3, _ => rfl
          | 4, _ => rfl)
end Go.Proofs.Qxb6603661a
