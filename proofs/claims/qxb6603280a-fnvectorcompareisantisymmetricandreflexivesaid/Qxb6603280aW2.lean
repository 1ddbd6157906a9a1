/-
  THE WALKS of ZZNewVector (11), zzIsOrder (15), zzMirror (16).
-/
import Derived.Test.Qxb6603280aW1
namespace Go.Proofs.Qxb6603280a
open Go.RowKit Zz

theorem info43 : (Try.prog.info? 43).map (fun i => (i.zero, i.size, i.bytes)) = some (some (.agg #[.string ByteArray.empty, .int .u64 0]), 2, 24) := by kernel_rfl

/-- A slice of n entries: an id, a count. -/
def PRow (w : World) (a : Option Addr) (n : Nat) (E : Nat → Vec.Ent) : Prop :=
  n = 0 ∨ ∃ b off, a = some ⟨b, off, none⟩ ∧ b < w.heap.size ∧ ∀ i, i < n → w.cell? ⟨b, off + i * 2, none⟩ = some (.string (E i).s) ∧ w.cell? ⟨b, off + i * 2 + 1, none⟩ = some (.int .u64 (E i).c)

theorem PRow.below {w w' : World} {a : Option Addr} {n : Nat} {E : Nat → Vec.Ent} (h : PRow w a n E) (hb : Below w.heap.size w w') : PRow w' a n E := by
  rcases h with h | ⟨b, off, h1, h2, h3⟩
  · exact .inl h
  · exact .inr ⟨b, off, h1, by have := hb.size; omega, fun i hi => ⟨(hb.cell (p := ⟨b, off + i * 2, none⟩) h2).trans (h3 i hi).1, (hb.cell (p := ⟨b, off + i * 2 + 1, none⟩) h2).trans (h3 i hi).2⟩⟩

theorem PRow.cell {w : World} {a : Option Addr} {n : Nat} {E : Nat → Vec.Ent} (h : PRow w a n E) {k : Nat} (hk : k < n) :
    ∃ b off, a = some ⟨b, off, none⟩ ∧ b < w.heap.size ∧ ∀ i, i < n → w.cell? ⟨b, off + i * 2, none⟩ = some (.string (E i).s) ∧ w.cell? ⟨b, off + i * 2 + 1, none⟩ = some (.int .u64 (E i).c) := by
  rcases h with h | h
  · omega
  · exact h

def RetP (w : World) (n : Nat) (E : Nat → Vec.Ent) (e : Ending) (w' : World) : Prop := ∃ a c, e = .returned (.agg #[.slice a n c]) ∧ PRow w' a n E ∧ Below w.heap.size w w'

set_option maxHeartbeats 1000000 in
theorem newVector_any (a0 a1 : Option Addr) (n c0 c1 : Nat) (S : Nat → ByteArray) (C : Nat → Int) (w : World) (hn : n ≤ 65536)
    (hS : VRow w a0 n (fun i => .string (S i))) (hC : VRow w a1 n (fun i => .int .u64 (C i))) :
    Calls Try.prog 11 #[.slice a0 n c0, .slice a1 n c1] w fun e w' => RetP w n (fun i => ⟨S i, C i⟩) e w' := by
  obtain ⟨i0, hi, hz0, hz1, hz2⟩ := info_parts info43
  go_enter Try.func11, Try.ntmps11
  go_wp2_with (first | (at_make; refine wpList_make_full _ rfl _ _ 29 rfl (w.heap.size + 1) 43 i0 _ 2 Try.underlying29 hi hz0 hz1 _ _ _ _ n rfl rfl rfl rfl (by rw [hz2]; omega) (by unfold maxLen; omega) (by simp) ?_; intro w1 hown hgrow))
  clear hi hz0 hz1 hz2
  have esz : (w.alloc (.cells #[.slice none 0 0] 31)).heap.size = w.heap.size + 1 := by simp
  rw [esz] at hown
  have hbg := below_of_grown hgrow
  rw [esz] at hbg
  have hb0 : Below w.heap.size w w1 := ((Below.refl _ _).alloc (Nat.le_refl _) _).trans (hbg.mono (by omega))
  have hc0 : w1.cell? ⟨w.heap.size, 0, none⟩ = some (.slice none 0 0) := (hbg.cell (p := ⟨w.heap.size, 0, none⟩) (by show w.heap.size < _; omega)).trans (by simp)
  have hf0 : w1.frozen? ⟨w.heap.size, 0, none⟩ = false := (hbg.frozen (p := ⟨w.heap.size, 0, none⟩) (by show w.heap.size < _; omega)).trans (by simp)
  clear esz hgrow hbg
  go_loopw [7] (fun i wr => ∃ k : Nat, k ≤ n ∧ i = .int .i64 k ∧ (∃ F : Nat → Value, wr.rowIs (w.heap.size + 1) 43 (n * 2) F ∧ ∀ i, i < k → F (i * 2) = .string (S i) ∧ F (i * 2 + 1) = .int .u64 (C i)) ∧
    wr.cell? ⟨w.heap.size, 0, none⟩ = some (.slice none 0 0) ∧ wr.frozen? ⟨w.heap.size, 0, none⟩ = false ∧ Below w.heap.size w wr) (fun i _ => n - (intOf i).toNat)
  case atStart => exact ⟨0, Nat.zero_le _, rfl, ⟨_, row_of_own hown, fun i hi => absurd hi (Nat.not_lt_zero _)⟩, hc0, hf0, hb0⟩
  case round =>
    obtain ⟨k, hk, rfl, ⟨F, hrow, hF⟩, hc, hf, hb⟩ := hrel
    clear hown hc0 hf0 hb0
    by_cases hlt : k < n
    · obtain ⟨b, off, rfl, hbs, hcell⟩ := hS.cell hlt
      obtain ⟨b', off', rfl, hbs', hcell'⟩ := hC.cell hlt
      have g0 := (hb.cell (p := ⟨b, off + k, none⟩) hbs).trans (hcell k hlt)
      have g1 := (hb.cell (p := ⟨b', off' + k, none⟩) hbs').trans (hcell' k hlt)
      obtain ⟨s, hs⟩ : ∃ s, S k = s := ⟨_, rfl⟩
      obtain ⟨x, hx⟩ : ∃ s, C k = s := ⟨_, rfl⟩
      simp only [hs] at g0
      simp only [hx] at g1
      have e0 := hrow.cell (i := k * 2) (by omega)
      have e1 := hrow.cell (i := k * 2 + 1) (by omega)
      have f0 := hrow.frozen (k * 2)
      have f1 := hrow.frozen (k * 2 + 1)
      have hki : (k : Int) < (n : Int) := by omega
      have R1 := (hrow.set (k * 2) (.string s)).set (k * 2 + 1) (.int .u64 x)
      have R2 := (hb.setCell (p := ⟨w.heap.size + 1, k * 2, none⟩) (Nat.le_succ _) (.string s)).setCell (p := ⟨w.heap.size + 1, k * 2 + 1, none⟩) (Nat.le_succ _) (.int .u64 x)
      have R3 : ((wr.setCell ⟨w.heap.size + 1, k * 2, none⟩ (.string s)).setCell ⟨w.heap.size + 1, k * 2 + 1, none⟩ (.int .u64 x)).cell? ⟨w.heap.size, 0, none⟩ = some (.slice none 0 0) := by
        rw [set_other (by simp), set_other (by simp)]; exact hc
      have HR : Hid (∃ G : Nat → Value, ((wr.setCell ⟨w.heap.size + 1, k * 2, none⟩ (.string s)).setCell ⟨w.heap.size + 1, k * 2 + 1, none⟩ (.int .u64 x)).rowIs (w.heap.size + 1) 43 (n * 2) G ∧
          ∀ i, i < k + 1 → G (i * 2) = .string (S i) ∧ G (i * 2 + 1) = .int .u64 (C i)) := by
        refine ⟨_, R1, fun i hi => ?_⟩
        by_cases e : i = k
        · subst e
          refine ⟨?_, ?_⟩ <;> simp [hs, hx]
        · obtain ⟨q0, q1⟩ := hF i (by omega)
          refine ⟨?_, ?_⟩
          · rw [if_neg (by omega), if_neg (by omega)]; exact q0
          · rw [if_neg (by omega), if_neg (by omega)]; exact q1
      have H3 : Hid (((wr.setCell ⟨w.heap.size + 1, k * 2, none⟩ (.string s)).setCell ⟨w.heap.size + 1, k * 2 + 1, none⟩ (.int .u64 x)).cell? ⟨w.heap.size, 0, none⟩ = some (.slice none 0 0)) := R3
      clear hcell hcell' hrow hF hb hS hC hs hx R1 R3
      go_wp2
      go_region
      go_wp2
      go_roundw
      case rel =>
        obtain ⟨G, r1, r2⟩ := HR.out
        exact ⟨k + 1, by omega, by go_num, ⟨G, r1.drew, r2⟩, H3.out, by simpa using hf, R2.drew⟩
      case measure => simp [intOf]; omega
    · have hrl := hrow.lt
      go_wp2
      have R2 := hb.setCell (p := ⟨w.heap.size, 0, none⟩) (Nat.le_refl _) (.slice (some ⟨w.heap.size + 1, 0, none⟩) n n)
      have R1 := hrow.setOther (a := ⟨w.heap.size, 0, none⟩) (by simp) (.slice (some ⟨w.heap.size + 1, 0, none⟩) n n)
      refine bodyPost_ret (v := .agg #[.slice (some ⟨w.heap.size + 1, 0, none⟩) n n]) (by simp [results, Try.results11, go_sem, hc]) rfl ⟨some ⟨w.heap.size + 1, 0, none⟩, n, rfl, .inr ⟨w.heap.size + 1, 0, rfl, R1.lt, fun i hi => ?_⟩, R2⟩
      obtain ⟨q0, q1⟩ := hF i (by omega)
      rw [Nat.zero_add]
      exact ⟨(R1.cell (by omega)).trans (by rw [q0]), (R1.cell (by omega)).trans (by rw [q1])⟩

/-- The four orders, by (behind, ahead). -/
def ordS : Bool × Bool → ByteArray
  | (true, true) => ⟨#[99, 111, 110, 99, 117, 114, 114, 101, 110, 116]⟩
  | (true, false) => ⟨#[98, 101, 102, 111, 114, 101]⟩
  | (false, true) => ⟨#[97, 102, 116, 101, 114]⟩
  | (false, false) => ⟨#[101, 113, 117, 97, 108]⟩

theorem isOrder_any (r : Bool × Bool) (w : World) : Calls Try.prog 15 #[.string (ordS r)] w fun e w' => e = .returned (.bool true) ∧ w' = w := by
  obtain ⟨b, a⟩ := r
  cases b <;> cases a
  all_goals
    simp only [ordS]
    go_enter Try.func15, Try.ntmps15
    go_wp2
    go_ret
    exact ⟨rfl, rfl⟩

theorem mirror_any (r : Bool × Bool) (w : World) : Calls Try.prog 16 #[.string (ordS r)] w fun e w' => e = .returned (.string (ordS (r.2, r.1))) ∧ w' = w := by
  obtain ⟨b, a⟩ := r
  cases b <;> cases a
  all_goals
    simp only [ordS]
    go_enter Try.func16, Try.ntmps16
    go_wp2
    go_ret
    exact ⟨rfl, rfl⟩
end Go.Proofs.Qxb6603280a
