/-
  THE WALKS of the small functions on the road of seat b6603661a: the bound (11), the clones (8, 12, 13), what is read out of a slice of calls (22 .. 25), the queue's fields (16, 18 .. 21).
-/
import Derived.Test.Qxb6603661aRows
import Derived.ProofKit
import Derived.RegionTactic
import Derived.BigRegion
import Derived.ChangeAlike
import Derived.Deep.QuietTactic
import Derived.BigQuiet
import Derived.LoopTactic
import Derived.WalkSpells
import Derived.WalkLawsBesides
import Derived.Laws.EntriesVeiled
import Derived.Test.Qxb6603661aRow
namespace Go.Proofs.Qxb6603661a
open Go.RowKit Zz Ring

theorem info9 : (Try.prog.info? 9).map (fun i => (i.zero, i.size, i.bytes)) = some (some (.string ByteArray.empty), 1, 16) := by kernel_rfl
theorem info25 : (Try.prog.info? 25).map (fun i => (i.zero, i.size, i.bytes)) = some (some (.int .u64 0), 1, 8) := by kernel_rfl
theorem info2 : (Try.prog.info? 2).map (fun i => (i.zero, i.size, i.bytes)) = some (some (.int .i64 0), 1, 8) := by kernel_rfl
theorem info55 : (Try.prog.info? 55).map (fun i => (i.zero, i.size, i.bytes)) = some (some (.agg #[.int .u64 0, .int .u64 0, .string ByteArray.empty, .nilFunc, .nilFunc, .int .i64 0]), 6, 56) := by kernel_rfl

/-- Some bool. -/
def RetB (w : World) (e : Ending) (w' : World) : Prop := (∃ b, e = .returned (.bool b)) ∧ Below w.heap.size w w'

set_option maxHeartbeats 1000000 in
theorem bytes_any (a0 a1 a2 a3 : Option Addr) (n0 n1 n2 n3 c0 c1 c2 c3 : Nat) (h o : Int) (x y : Bool) (S : Nat → ByteArray) (w : World) (h3 : n3 ≤ maxLen) (hS : VRow w a3 n3 (fun i => .string (S i))) :
    Calls Try.prog 11 #[.slice a0 n0 c0, .slice a1 n1 c1, .slice a2 n2 c2, .slice a3 n3 c3, .int .i64 h, .int .i64 o, .bool x, .bool y] w fun e w' => RetB w e w' := by
  unfold maxLen at h3
  go_enter Try.func11, Try.ntmps11
  go_wp2
  all_goals try (go_ret; exact ⟨⟨_, rfl⟩, Below.refl _ _⟩)
  go_loop [17, 18] (fun z i => ∃ (k : Nat) (y : Int), k ≤ n3 ∧ i = .int .i64 k ∧ z = .int .i64 y) (fun _ i => n3 - (intOf i).toNat)
  case atStart => exact ⟨0, _, Nat.zero_le _, rfl, rfl⟩
  case round =>
    obtain ⟨k, y, hk, rfl, rfl⟩ := hrel
    by_cases hlt : k < n3
    · obtain ⟨b, off, rfl, hbs, hcell⟩ := hS.cell hlt
      have g0 := hcell k hlt
      clear hcell hS
      go_wp2
      · go_ret
        exact ⟨⟨_, rfl⟩, Below.refl _ _⟩
      · go_ret
        exact ⟨⟨_, rfl⟩, Below.refl _ _⟩
      · go_round
        case rel => exact ⟨k + 1, _, by omega, by go_num, rfl⟩
        case measure => simp [intOf]; omega
    · clear hS
      go_wp2
      all_goals (go_ret; exact ⟨⟨_, rfl⟩, Below.refl _ _⟩)

/-- 'cloneU64': the same values, in new memory. -/
theorem cloneU64_any (a : Option Addr) (n c : Nat) (Z : Nat → Int) (w : World) (hn : n ≤ 32768) (ha : a = none → n = 0 ∧ c = 0) (hr : VRow w a n (fun i => .int .u64 (Z i))) :
    Calls Try.prog 8 #[.slice a n c] w fun e w' => RetV w n (fun i => .int .u64 (Z i)) e w' := by
  have q22 : ∀ (w : World) (a : Option Addr) (n c n' c' : Nat), (binOp .eql 22 (.slice a n c) (.slice none n' c')).run Try.prog w = .ok (.bool a.isNone) w := fun w a n c n' c' => Lib.run_eql_slice_nil w _ _ a n c n' c' Try.underlying22
  cases a with
  | none =>
    obtain ⟨rfl, rfl⟩ := ha rfl
    go_enter Try.func8, Try.ntmps8
    go_wp2
    go_ret
    exact ⟨none, 0, rfl, fun _ => rfl, .inl rfl, Below.refl _ _⟩
  | some a =>
    clear ha
    have hmk := run_make_row' (P := Try.prog) 22 25 (.int .u64 0) 8 Try.underlying22 info25 rfl .i64 .i64 n (by omega) (by omega)
    go_enter Try.func8, Try.ntmps8
    go_wp2
    clear hmk q22
    go_loopw [4] (fun i wr => ∃ k : Nat, k ≤ n ∧ i = .int .i64 k ∧ wr.rowIs w.heap.size 25 n (fun j => if j < k then .int .u64 (Z j) else .int .u64 0) ∧ Below w.heap.size w wr) (fun i _ => n - (intOf i).toNat)
    case atStart => exact ⟨0, Nat.zero_le _, rfl, (World.rowIs_made w (.int .u64 0) n 25).congr (fun i _ => by simp), (Below.refl _ _).alloc (Nat.le_refl _) _⟩
    case round =>
      obtain ⟨k, hk, rfl, hrow, hb⟩ := hrel
      by_cases hlt : k < n
      · obtain ⟨b, off, ha, hbs, hcell⟩ := hr.cell hlt
        simp only [Option.some.injEq] at ha
        subst ha
        have g0 : wr.cell? ⟨b, off + k, none⟩ = some (.int .u64 (Z k)) := (hb.cell (p := ⟨b, off + k, none⟩) hbs).trans (hcell k hlt)
        have e0 : wr.cell? ⟨w.heap.size, k, none⟩ = some (.int .u64 0) := by have := hrow.cell hlt; simpa using this
        have f0 := hrow.frozen k
        have R1 : (wr.setCell ⟨w.heap.size, k, none⟩ (.int .u64 (Z k))).rowIs w.heap.size 25 n (fun j => if j < k + 1 then .int .u64 (Z j) else .int .u64 0) := (hrow.set k (.int .u64 (Z k))).congr (fun i _ => by
          by_cases e : i = k
          · subst e; simp
          · by_cases e2 : i < k
            · simp [e, e2, show i < k + 1 by omega]
            · simp [e, e2, show ¬ i < k + 1 by omega])
        have R2 := hb.setCell (p := ⟨w.heap.size, k, none⟩) (Nat.le_refl _) (.int .u64 (Z k))
        clear hcell hrow hb hr
        go_wp2
        go_roundw
        case rel => exact ⟨k + 1, by omega, by go_num, R1, R2⟩
        case measure => simp [intOf]; omega
      · go_wp2
        go_ret
        exact ⟨some ⟨w.heap.size, 0, none⟩, n, rfl, fun h => (by cases h), vrow_of_row (hrow.congr (fun i hi => by simp [show i < k by omega])), hb⟩

/-- 'cloneI64': the same values, in new memory. -/
theorem cloneI64_any (a : Option Addr) (n c : Nat) (Z : Nat → Int) (w : World) (hn : n ≤ 32768) (ha : a = none → n = 0 ∧ c = 0) (hr : VRow w a n (fun i => .int .i64 (Z i))) :
    Calls Try.prog 12 #[.slice a n c] w fun e w' => RetV w n (fun i => .int .i64 (Z i)) e w' := by
  have q22 : ∀ (w : World) (a : Option Addr) (n c n' c' : Nat), (binOp .eql 28 (.slice a n c) (.slice none n' c')).run Try.prog w = .ok (.bool a.isNone) w := fun w a n c n' c' => Lib.run_eql_slice_nil w _ _ a n c n' c' Try.underlying28
  cases a with
  | none =>
    obtain ⟨rfl, rfl⟩ := ha rfl
    go_enter Try.func12, Try.ntmps12
    go_wp2
    go_ret
    exact ⟨none, 0, rfl, fun _ => rfl, .inl rfl, Below.refl _ _⟩
  | some a =>
    clear ha
    have hmk := run_make_row' (P := Try.prog) 28 2 (.int .i64 0) 8 Try.underlying28 info2 rfl .i64 .i64 n (by omega) (by omega)
    go_enter Try.func12, Try.ntmps12
    go_wp2
    clear hmk q22
    go_loopw [4] (fun i wr => ∃ k : Nat, k ≤ n ∧ i = .int .i64 k ∧ wr.rowIs w.heap.size 2 n (fun j => if j < k then .int .i64 (Z j) else .int .i64 0) ∧ Below w.heap.size w wr) (fun i _ => n - (intOf i).toNat)
    case atStart => exact ⟨0, Nat.zero_le _, rfl, (World.rowIs_made w (.int .i64 0) n 2).congr (fun i _ => by simp), (Below.refl _ _).alloc (Nat.le_refl _) _⟩
    case round =>
      obtain ⟨k, hk, rfl, hrow, hb⟩ := hrel
      by_cases hlt : k < n
      · obtain ⟨b, off, ha, hbs, hcell⟩ := hr.cell hlt
        simp only [Option.some.injEq] at ha
        subst ha
        have g0 : wr.cell? ⟨b, off + k, none⟩ = some (.int .i64 (Z k)) := (hb.cell (p := ⟨b, off + k, none⟩) hbs).trans (hcell k hlt)
        have e0 : wr.cell? ⟨w.heap.size, k, none⟩ = some (.int .i64 0) := by have := hrow.cell hlt; simpa using this
        have f0 := hrow.frozen k
        have R1 : (wr.setCell ⟨w.heap.size, k, none⟩ (.int .i64 (Z k))).rowIs w.heap.size 2 n (fun j => if j < k + 1 then .int .i64 (Z j) else .int .i64 0) := (hrow.set k (.int .i64 (Z k))).congr (fun i _ => by
          by_cases e : i = k
          · subst e; simp
          · by_cases e2 : i < k
            · simp [e, e2, show i < k + 1 by omega]
            · simp [e, e2, show ¬ i < k + 1 by omega])
        have R2 := hb.setCell (p := ⟨w.heap.size, k, none⟩) (Nat.le_refl _) (.int .i64 (Z k))
        clear hcell hrow hb hr
        go_wp2
        go_roundw
        case rel => exact ⟨k + 1, by omega, by go_num, R1, R2⟩
        case measure => simp [intOf]; omega
      · go_wp2
        go_ret
        exact ⟨some ⟨w.heap.size, 0, none⟩, n, rfl, fun h => (by cases h), vrow_of_row (hrow.congr (fun i hi => by simp [show i < k by omega])), hb⟩

/-- 'cloneStr': the same values, in new memory. -/
theorem cloneStr_any (a : Option Addr) (n c : Nat) (Z : Nat → ByteArray) (w : World) (hn : n ≤ 32768) (ha : a = none → n = 0 ∧ c = 0) (hr : VRow w a n (fun i => .string (Z i))) :
    Calls Try.prog 13 #[.slice a n c] w fun e w' => RetV w n (fun i => .string (Z i)) e w' := by
  have q22 : ∀ (w : World) (a : Option Addr) (n c n' c' : Nat), (binOp .eql 29 (.slice a n c) (.slice none n' c')).run Try.prog w = .ok (.bool a.isNone) w := fun w a n c n' c' => Lib.run_eql_slice_nil w _ _ a n c n' c' Try.underlying29
  cases a with
  | none =>
    obtain ⟨rfl, rfl⟩ := ha rfl
    go_enter Try.func13, Try.ntmps13
    go_wp2
    go_ret
    exact ⟨none, 0, rfl, fun _ => rfl, .inl rfl, Below.refl _ _⟩
  | some a =>
    clear ha
    have hmk := run_make_row' (P := Try.prog) 29 9 (.string ByteArray.empty) 16 Try.underlying29 info9 rfl .i64 .i64 n (by omega) (by omega)
    go_enter Try.func13, Try.ntmps13
    go_wp2
    clear hmk q22
    go_loopw [4] (fun i wr => ∃ k : Nat, k ≤ n ∧ i = .int .i64 k ∧ wr.rowIs w.heap.size 9 n (fun j => if j < k then .string (Z j) else .string ByteArray.empty) ∧ Below w.heap.size w wr) (fun i _ => n - (intOf i).toNat)
    case atStart => exact ⟨0, Nat.zero_le _, rfl, (World.rowIs_made w (.string ByteArray.empty) n 9).congr (fun i _ => by simp), (Below.refl _ _).alloc (Nat.le_refl _) _⟩
    case round =>
      obtain ⟨k, hk, rfl, hrow, hb⟩ := hrel
      by_cases hlt : k < n
      · obtain ⟨b, off, ha, hbs, hcell⟩ := hr.cell hlt
        simp only [Option.some.injEq] at ha
        subst ha
        have g0 : wr.cell? ⟨b, off + k, none⟩ = some (.string (Z k)) := (hb.cell (p := ⟨b, off + k, none⟩) hbs).trans (hcell k hlt)
        have e0 : wr.cell? ⟨w.heap.size, k, none⟩ = some (.string ByteArray.empty) := by have := hrow.cell hlt; simpa using this
        have f0 := hrow.frozen k
        have R1 : (wr.setCell ⟨w.heap.size, k, none⟩ (.string (Z k))).rowIs w.heap.size 9 n (fun j => if j < k + 1 then .string (Z j) else .string ByteArray.empty) := (hrow.set k (.string (Z k))).congr (fun i _ => by
          by_cases e : i = k
          · subst e; simp
          · by_cases e2 : i < k
            · simp [e, e2, show i < k + 1 by omega]
            · simp [e, e2, show ¬ i < k + 1 by omega])
        have R2 := hb.setCell (p := ⟨w.heap.size, k, none⟩) (Nat.le_refl _) (.string (Z k))
        clear hcell hrow hb hr
        go_wp2
        go_roundw
        case rel => exact ⟨k + 1, by omega, by go_num, R1, R2⟩
        case measure => simp [intOf]; omega
      · go_wp2
        go_ret
        exact ⟨some ⟨w.heap.size, 0, none⟩, n, rfl, fun h => (by cases h), vrow_of_row (hrow.congr (fun i hi => by simp [show i < k by omega])), hb⟩

/-- 'madeSeqs': one field of each call, in new memory. -/
theorem madeSeqs_any (a : Option Addr) (n c : Nat) (M : Nat → Mk) (w : World) (hn : n ≤ 32768) (hr : MRow w a n M) :
    Calls Try.prog 22 #[.slice a n c] w fun e w' => RetV w n (fun i => .int .u64 (M i).s) e w' := by
  have hmk := run_make_row' (P := Try.prog) 22 25 (.int .u64 0) 8 Try.underlying22 info25 rfl .i64 .i64 n (by omega) (by omega)
  go_enter Try.func22, Try.ntmps22
  go_wp2
  clear hmk
  go_loopw [4] (fun i wr => ∃ k : Nat, k ≤ n ∧ i = .int .i64 k ∧ wr.rowIs w.heap.size 25 n (fun j => if j < k then .int .u64 (M j).s else .int .u64 0) ∧ Below w.heap.size w wr) (fun i _ => n - (intOf i).toNat)
  case atStart => exact ⟨0, Nat.zero_le _, rfl, (World.rowIs_made w (.int .u64 0) n 25).congr (fun i _ => by simp), (Below.refl _ _).alloc (Nat.le_refl _) _⟩
  case round =>
    obtain ⟨k, hk, rfl, hrow, hb⟩ := hrel
    by_cases hlt : k < n
    · obtain ⟨b, off, rfl, hbs, hcell⟩ := hr.cell hlt
      have g0 : wr.cell? ⟨b, off + k * 6, none⟩ = some (.int .u64 (M k).s) := (hb.cell (p := ⟨b, off + k * 6, none⟩) hbs).trans (hcell k hlt).c0
      have e0 : wr.cell? ⟨w.heap.size, k, none⟩ = some (.int .u64 0) := by have := hrow.cell hlt; simpa using this
      have f0 := hrow.frozen k
      have R1 : (wr.setCell ⟨w.heap.size, k, none⟩ (.int .u64 (M k).s)).rowIs w.heap.size 25 n (fun j => if j < k + 1 then .int .u64 (M j).s else .int .u64 0) := (hrow.set k (.int .u64 (M k).s)).congr (fun i _ => by
        by_cases e : i = k
        · subst e; simp
        · by_cases e2 : i < k
          · simp [e, e2, show i < k + 1 by omega]
          · simp [e, e2, show ¬ i < k + 1 by omega])
      have R2 := hb.setCell (p := ⟨w.heap.size, k, none⟩) (Nat.le_refl _) (.int .u64 (M k).s)
      clear hcell hrow hb hr
      go_wp2
      go_roundw
      case rel => exact ⟨k + 1, by omega, by go_num, R1, R2⟩
      case measure => simp [intOf]; omega
    · go_wp2
      go_ret
      exact ⟨some ⟨w.heap.size, 0, none⟩, n, rfl, fun h => (by cases h), vrow_of_row (hrow.congr (fun i hi => by simp [show i < k by omega])), hb⟩

/-- 'madeDeadlines': one field of each call, in new memory. -/
theorem madeDeadlines_any (a : Option Addr) (n c : Nat) (M : Nat → Mk) (w : World) (hn : n ≤ 32768) (hr : MRow w a n M) :
    Calls Try.prog 23 #[.slice a n c] w fun e w' => RetV w n (fun i => .int .i64 (M i).d) e w' := by
  have hmk := run_make_row' (P := Try.prog) 28 2 (.int .i64 0) 8 Try.underlying28 info2 rfl .i64 .i64 n (by omega) (by omega)
  go_enter Try.func23, Try.ntmps23
  go_wp2
  clear hmk
  go_loopw [4] (fun i wr => ∃ k : Nat, k ≤ n ∧ i = .int .i64 k ∧ wr.rowIs w.heap.size 2 n (fun j => if j < k then .int .i64 (M j).d else .int .i64 0) ∧ Below w.heap.size w wr) (fun i _ => n - (intOf i).toNat)
  case atStart => exact ⟨0, Nat.zero_le _, rfl, (World.rowIs_made w (.int .i64 0) n 2).congr (fun i _ => by simp), (Below.refl _ _).alloc (Nat.le_refl _) _⟩
  case round =>
    obtain ⟨k, hk, rfl, hrow, hb⟩ := hrel
    by_cases hlt : k < n
    · obtain ⟨b, off, rfl, hbs, hcell⟩ := hr.cell hlt
      have g0 : wr.cell? ⟨b, off + k * 6 + 5, none⟩ = some (.int .i64 (M k).d) := (hb.cell (p := ⟨b, off + k * 6 + 5, none⟩) hbs).trans (hcell k hlt).c5
      have e0 : wr.cell? ⟨w.heap.size, k, none⟩ = some (.int .i64 0) := by have := hrow.cell hlt; simpa using this
      have f0 := hrow.frozen k
      have R1 : (wr.setCell ⟨w.heap.size, k, none⟩ (.int .i64 (M k).d)).rowIs w.heap.size 2 n (fun j => if j < k + 1 then .int .i64 (M j).d else .int .i64 0) := (hrow.set k (.int .i64 (M k).d)).congr (fun i _ => by
        by_cases e : i = k
        · subst e; simp
        · by_cases e2 : i < k
          · simp [e, e2, show i < k + 1 by omega]
          · simp [e, e2, show ¬ i < k + 1 by omega])
      have R2 := hb.setCell (p := ⟨w.heap.size, k, none⟩) (Nat.le_refl _) (.int .i64 (M k).d)
      clear hcell hrow hb hr
      go_wp2
      go_roundw
      case rel => exact ⟨k + 1, by omega, by go_num, R1, R2⟩
      case measure => simp [intOf]; omega
    · go_wp2
      go_ret
      exact ⟨some ⟨w.heap.size, 0, none⟩, n, rfl, fun h => (by cases h), vrow_of_row (hrow.congr (fun i hi => by simp [show i < k by omega])), hb⟩

/-- 'madeKeys': one field of each call, in new memory. -/
theorem madeKeys_any (a : Option Addr) (n c : Nat) (M : Nat → Mk) (w : World) (hn : n ≤ 32768) (hr : MRow w a n M) :
    Calls Try.prog 24 #[.slice a n c] w fun e w' => RetV w n (fun i => .int .u64 (M i).k) e w' := by
  have hmk := run_make_row' (P := Try.prog) 22 25 (.int .u64 0) 8 Try.underlying22 info25 rfl .i64 .i64 n (by omega) (by omega)
  go_enter Try.func24, Try.ntmps24
  go_wp2
  clear hmk
  go_loopw [4] (fun i wr => ∃ k : Nat, k ≤ n ∧ i = .int .i64 k ∧ wr.rowIs w.heap.size 25 n (fun j => if j < k then .int .u64 (M j).k else .int .u64 0) ∧ Below w.heap.size w wr) (fun i _ => n - (intOf i).toNat)
  case atStart => exact ⟨0, Nat.zero_le _, rfl, (World.rowIs_made w (.int .u64 0) n 25).congr (fun i _ => by simp), (Below.refl _ _).alloc (Nat.le_refl _) _⟩
  case round =>
    obtain ⟨k, hk, rfl, hrow, hb⟩ := hrel
    by_cases hlt : k < n
    · obtain ⟨b, off, rfl, hbs, hcell⟩ := hr.cell hlt
      have g0 : wr.cell? ⟨b, off + k * 6 + 1, none⟩ = some (.int .u64 (M k).k) := (hb.cell (p := ⟨b, off + k * 6 + 1, none⟩) hbs).trans (hcell k hlt).c1
      have e0 : wr.cell? ⟨w.heap.size, k, none⟩ = some (.int .u64 0) := by have := hrow.cell hlt; simpa using this
      have f0 := hrow.frozen k
      have R1 : (wr.setCell ⟨w.heap.size, k, none⟩ (.int .u64 (M k).k)).rowIs w.heap.size 25 n (fun j => if j < k + 1 then .int .u64 (M j).k else .int .u64 0) := (hrow.set k (.int .u64 (M k).k)).congr (fun i _ => by
        by_cases e : i = k
        · subst e; simp
        · by_cases e2 : i < k
          · simp [e, e2, show i < k + 1 by omega]
          · simp [e, e2, show ¬ i < k + 1 by omega])
      have R2 := hb.setCell (p := ⟨w.heap.size, k, none⟩) (Nat.le_refl _) (.int .u64 (M k).k)
      clear hcell hrow hb hr
      go_wp2
      go_roundw
      case rel => exact ⟨k + 1, by omega, by go_num, R1, R2⟩
      case measure => simp [intOf]; omega
    · go_wp2
      go_ret
      exact ⟨some ⟨w.heap.size, 0, none⟩, n, rfl, fun h => (by cases h), vrow_of_row (hrow.congr (fun i hi => by simp [show i < k by omega])), hb⟩

/-- 'madeAddrs': one field of each call, in new memory. -/
theorem madeAddrs_any (a : Option Addr) (n c : Nat) (M : Nat → Mk) (w : World) (hn : n ≤ 32768) (hr : MRow w a n M) :
    Calls Try.prog 25 #[.slice a n c] w fun e w' => RetV w n (fun i => .string (M i).a) e w' := by
  have hmk := run_make_row' (P := Try.prog) 29 9 (.string ByteArray.empty) 16 Try.underlying29 info9 rfl .i64 .i64 n (by omega) (by omega)
  go_enter Try.func25, Try.ntmps25
  go_wp2
  clear hmk
  go_loopw [4] (fun i wr => ∃ k : Nat, k ≤ n ∧ i = .int .i64 k ∧ wr.rowIs w.heap.size 9 n (fun j => if j < k then .string (M j).a else .string ByteArray.empty) ∧ Below w.heap.size w wr) (fun i _ => n - (intOf i).toNat)
  case atStart => exact ⟨0, Nat.zero_le _, rfl, (World.rowIs_made w (.string ByteArray.empty) n 9).congr (fun i _ => by simp), (Below.refl _ _).alloc (Nat.le_refl _) _⟩
  case round =>
    obtain ⟨k, hk, rfl, hrow, hb⟩ := hrel
    by_cases hlt : k < n
    · obtain ⟨b, off, rfl, hbs, hcell⟩ := hr.cell hlt
      have g0 : wr.cell? ⟨b, off + k * 6 + 2, none⟩ = some (.string (M k).a) := (hb.cell (p := ⟨b, off + k * 6 + 2, none⟩) hbs).trans (hcell k hlt).c2
      have e0 : wr.cell? ⟨w.heap.size, k, none⟩ = some (.string ByteArray.empty) := by have := hrow.cell hlt; simpa using this
      have f0 := hrow.frozen k
      have R1 : (wr.setCell ⟨w.heap.size, k, none⟩ (.string (M k).a)).rowIs w.heap.size 9 n (fun j => if j < k + 1 then .string (M j).a else .string ByteArray.empty) := (hrow.set k (.string (M k).a)).congr (fun i _ => by
        by_cases e : i = k
        · subst e; simp
        · by_cases e2 : i < k
          · simp [e, e2, show i < k + 1 by omega]
          · simp [e, e2, show ¬ i < k + 1 by omega])
      have R2 := hb.setCell (p := ⟨w.heap.size, k, none⟩) (Nat.le_refl _) (.string (M k).a)
      clear hcell hrow hb hr
      go_wp2
      go_roundw
      case rel => exact ⟨k + 1, by omega, by go_num, R1, R2⟩
      case measure => simp [intOf]; omega
    · go_wp2
      go_ret
      exact ⟨some ⟨w.heap.size, 0, none⟩, n, rfl, fun h => (by cases h), vrow_of_row (hrow.congr (fun i hi => by simp [show i < k by omega])), hb⟩

theorem qbuf_any (g : Nat) (a : Option Addr) (n c : Nat) (w : World) (h : w.cell? ⟨g, 0, none⟩ = some (.slice a n c)) : Calls Try.prog 16 #[.pointer (some ⟨g, 0, none⟩)] w fun e w' => e = .returned (.slice a n c) ∧ w' = w := by
  go_enter Try.func16, Try.ntmps16
  go_wp2
  go_ret
  exact ⟨rfl, rfl⟩
theorem qhead_any (g : Nat) (x : Int) (w : World) (h : w.cell? ⟨g, 1, none⟩ = some (.int .i64 x)) : Calls Try.prog 18 #[.pointer (some ⟨g, 0, none⟩)] w fun e w' => e = .returned (.int .i64 x) ∧ w' = w := by
  go_enter Try.func18, Try.ntmps18
  go_wp2
  go_ret
  exact ⟨rfl, rfl⟩
theorem qopen_any (g : Nat) (x : Int) (w : World) (h : w.cell? ⟨g, 2, none⟩ = some (.int .i64 x)) : Calls Try.prog 19 #[.pointer (some ⟨g, 0, none⟩)] w fun e w' => e = .returned (.int .i64 x) ∧ w' = w := by
  go_enter Try.func19, Try.ntmps19
  go_wp2
  go_ret
  exact ⟨rfl, rfl⟩
theorem qarmed_any (g : Nat) (x : Bool) (w : World) (h : w.cell? ⟨g, 4, none⟩ = some (.bool x)) : Calls Try.prog 20 #[.pointer (some ⟨g, 0, none⟩)] w fun e w' => e = .returned (.bool x) ∧ w' = w := by
  go_enter Try.func20, Try.ntmps20
  go_wp2
  go_ret
  exact ⟨rfl, rfl⟩
theorem qindex_any (g : Nat) (p : Option Addr) (w : World) (h : w.cell? ⟨g, 3, none⟩ = some (.pointer p)) : Calls Try.prog 21 #[.pointer (some ⟨g, 0, none⟩)] w fun e w' => e = .returned (.bool p.isSome) ∧ w' = w := by
  cases p with
  | none =>
    go_enter Try.func21, Try.ntmps21
    go_wp2
    go_ret
    exact ⟨rfl, rfl⟩
  | some p =>
    go_enter Try.func21, Try.ntmps21
    go_wp2
    go_ret
    exact ⟨rfl, rfl⟩
end Go.Proofs.Qxb6603661a
