/-
  THE WALKS of the small functions on the road of seat b6603280a: the bounds (14, 19, 18, 7), the validity (8), the copies (9, 10), the orders (15, 16), strings.Compare (22, 20).
-/
import Derived.Test.Qxb6603280aRows
import Derived.ProofKit
import Derived.RegionTactic
import Derived.BigRegion
import Derived.ChangeAlike
import Derived.Deep.QuietTactic
import Derived.BigQuiet
import Derived.LoopTactic
import Derived.WalkSpells
import Derived.WalkLawsBesides
import Derived.Laws.CopyOwn
import Derived.Lib.Bytealg
import Derived.Test.Qxb6603280aBase
import Derived.Test.Qxb6603280aPlain
namespace Go.Proofs.Qxb6603280a
open Go.RowKit Zz

theorem info9 : (Try.prog.info? 9).map (fun i => (i.zero, i.size, i.bytes)) = some (some (.string ByteArray.empty), 1, 16) := by kernel_rfl
theorem info41 : (Try.prog.info? 41).map (fun i => (i.zero, i.size, i.bytes)) = some (some (.int .u64 0), 1, 8) := by kernel_rfl

/-- Some bool, the world as it was but for draws. -/
def RetB (w : World) (e : Ending) (w' : World) : Prop := (∃ b, e = .returned (.bool b)) ∧ Below w.heap.size w w'
/-- Some int. -/
def RetI (w : World) (e : Ending) (w' : World) : Prop := (∃ x, e = .returned (.int .i64 x)) ∧ Below w.heap.size w w'

theorem add_any (x y : Int) (w : World) : Calls Try.prog 19 #[.int .i64 x, .int .i64 y] w fun e w' => RetI w e w' := by
  go_enter Try.func19, Try.ntmps19
  go_wp2
  all_goals (go_ret; exact ⟨⟨_, rfl⟩, Below.refl _ _⟩)

theorem stringsBytes_any (a : Option Addr) (n c : Nat) (x : Int) (S : Nat → ByteArray) (w : World) (hn : n ≤ maxLen) (hr : VRow w a n (fun i => .string (S i))) :
    Calls Try.prog 18 #[.slice a n c, .int .i64 x] w fun e w' => RetI w e w' := by
  unfold maxLen at hn
  go_enter Try.func18, Try.ntmps18
  go_wp2
  go_loopw [1, 5] (fun t i wr => ∃ (k : Nat) (y : Int), k ≤ n ∧ i = .int .i64 k ∧ t = .int .i64 y ∧ Below w.heap.size w wr) (fun _ i _ => n - (intOf i).toNat)
  case atStart => exact ⟨0, x, Nat.zero_le _, rfl, rfl, Below.refl _ _⟩
  case round =>
    obtain ⟨k, y, hk, rfl, rfl, hb⟩ := hrel
    by_cases hlt : k < n
    · obtain ⟨b, off, rfl, hbs, hcell⟩ := hr.cell hlt
      have g0 := (hb.cell (p := ⟨b, off + k, none⟩) hbs).trans (hcell k hlt)
      clear hcell
      go_wp2_with fail
      refine (add_any _ _ _).mono ?_
      rintro e w1 ⟨⟨y1, rfl⟩, hb1⟩
      have hw1 : Below w.heap.size w w1 := hb.trans (hb1.mono hb.size)
      have g1 := (hb1.cell (p := ⟨b, off + k, none⟩) (by have := hb.size; show b < _; omega)).trans g0
      clear g0
      go_wp2_with fail
      refine (add_any _ _ _).mono ?_
      rintro e w2 ⟨⟨y2, rfl⟩, hb2⟩
      have hw2 : Below w.heap.size w w2 := hw1.trans (hb2.mono hw1.size)
      clear g1
      go_wp2
      · go_ret
        exact ⟨⟨_, rfl⟩, hw2⟩
      · go_roundw
        case rel => exact ⟨k + 1, y2, by omega, by go_num, rfl, hw2⟩
        case measure => simp [intOf]; omega
    · go_wp2
      go_ret
      exact ⟨⟨_, rfl⟩, hb⟩

theorem vectorBytes_any (a a' : Option Addr) (n c n' c' : Nat) (x : Int) (S : Nat → ByteArray) (w : World) (hn : n ≤ maxLen) (hr : VRow w a n (fun i => .string (S i))) :
    Calls Try.prog 7 #[.slice a n c, .slice a' n' c', .int .i64 x] w fun e w' => RetI w e w' := by
  go_enter Try.func7, Try.ntmps7
  go_wp2_with fail
  refine (stringsBytes_any a n c x S _ hn hr).mono ?_
  rintro e w1 ⟨⟨y1, rfl⟩, hb1⟩
  go_wp2_with fail
  refine (add_any _ _ _).mono ?_
  rintro e w2 ⟨⟨y2, rfl⟩, hb2⟩
  go_wp2
  go_ret
  exact ⟨⟨_, rfl⟩, hb1.trans (hb2.mono hb1.size)⟩


set_option maxHeartbeats 1000000 in
theorem bytes_any (a0 a1 a2 a3 : Option Addr) (n0 n1 n2 n3 c0 c1 c2 c3 : Nat) (S T : Nat → ByteArray) (w : World) (h0 : n0 ≤ maxLen) (h2 : n2 ≤ maxLen)
    (hS : VRow w a0 n0 (fun i => .string (S i))) (hT : VRow w a2 n2 (fun i => .string (T i))) :
    Calls Try.prog 14 #[.slice a0 n0 c0, .slice a1 n1 c1, .slice a2 n2 c2, .slice a3 n3 c3] w fun e w' => RetB w e w' := by
  unfold maxLen at h0 h2
  by_cases t0 : 1048576 < n0
  · go_enter Try.func14, Try.ntmps14
    go_wp2
    go_ret
    exact ⟨⟨_, rfl⟩, Below.refl _ _⟩
  go_enter Try.func14, Try.ntmps14
  go_wp2
  go_loop [9, 10] (fun z i => ∃ (k : Nat) (y : Int), k ≤ n0 ∧ i = .int .i64 k ∧ z = .int .i64 y) (fun _ i => n0 - (intOf i).toNat)
  case atStart => exact ⟨0, _, Nat.zero_le _, rfl, rfl⟩
  case round =>
    obtain ⟨k, y, hk, rfl, rfl⟩ := hrel
    by_cases hlt : k < n0
    · obtain ⟨b, off, rfl, hbs, hcell⟩ := hS.cell hlt
      have g0 := hcell k hlt
      clear hcell hS
      go_wp2
      · go_ret
        exact ⟨⟨_, rfl⟩, Below.refl _ _⟩
      · go_ret
        exact ⟨⟨_, rfl⟩, Below.refl _ _⟩
      · go_round
        case rel => exact ⟨k + 1, _, by omega, by go_num, rfl⟩
        case measure => simp [intOf]; omega
    · clear hS
      go_wp2
      · go_ret
        exact ⟨⟨_, rfl⟩, Below.refl _ _⟩
      · go_ret
        exact ⟨⟨_, rfl⟩, Below.refl _ _⟩
      · go_ret
        exact ⟨⟨_, rfl⟩, Below.refl _ _⟩
      · go_ret
        exact ⟨⟨_, rfl⟩, Below.refl _ _⟩
      · go_loop [9, 11] (fun z i => ∃ (k : Nat) (y : Int), k ≤ n2 ∧ i = .int .i64 k ∧ z = .int .i64 y) (fun _ i => n2 - (intOf i).toNat)
        case atStart => exact ⟨0, _, Nat.zero_le _, rfl, rfl⟩
        case round =>
          obtain ⟨k, y, hk, rfl, rfl⟩ := hrel
          by_cases hlt : k < n2
          · obtain ⟨b, off, rfl, hbs, hcell⟩ := hT.cell hlt
            have g0 := hcell k hlt
            clear hcell hT
            go_wp2
            · go_ret
              exact ⟨⟨_, rfl⟩, Below.refl _ _⟩
            · go_ret
              exact ⟨⟨_, rfl⟩, Below.refl _ _⟩
            · go_round
              case rel => exact ⟨k + 1, _, by omega, by go_num, rfl⟩
              case measure => simp [intOf]; omega
          · clear hT
            go_wp2
            all_goals (go_ret; exact ⟨⟨_, rfl⟩, Below.refl _ _⟩)


/-- Some bool; where it is true the two lengths are one. -/
def RetBV (w : World) (n m : Nat) (e : Ending) (w' : World) : Prop := (∃ b, e = .returned (.bool b) ∧ (b = true → n = m)) ∧ Below w.heap.size w w'
set_option maxHeartbeats 1000000 in
theorem valid_any (a0 a1 : Option Addr) (n0 n1 c0 c1 : Nat) (S : Nat → ByteArray) (C : Nat → Int) (w : World) (h0 : n0 ≤ maxLen) (h1 : n1 ≤ maxLen)
    (hS : VRow w a0 n0 (fun i => .string (S i))) (hC : VRow w a1 n1 (fun i => .int .u64 (C i))) :
    Calls Try.prog 8 #[.slice a0 n0 c0, .slice a1 n1 c1] w fun e w' => RetBV w n0 n1 e w' := by
  unfold maxLen at h0 h1
  by_cases hnn : n0 = n1
  · subst hnn
    go_enter Try.func8, Try.ntmps8
    go_wp2
    go_loopw [5] (fun i wr => ∃ k : Nat, k ≤ n0 ∧ i = .int .i64 k ∧ Below w.heap.size w wr) (fun i _ => n0 - (intOf i).toNat)
    case atStart => exact ⟨0, Nat.zero_le _, rfl, Below.refl _ _⟩
    case round =>
      obtain ⟨k, hk, rfl, hb⟩ := hrel
      by_cases hlt : k < n0
      · obtain ⟨b, off, rfl, hbs, hcell⟩ := hS.cell hlt
        obtain ⟨b', off', rfl, hbs', hcell'⟩ := hC.cell hlt
        have g0 := (hb.cell (p := ⟨b, off + k, none⟩) hbs).trans (hcell k hlt)
        have g1 := (hb.cell (p := ⟨b', off' + k, none⟩) hbs').trans (hcell' k hlt)
        by_cases hz : C k = 0
        · have hz' : (C k == 0) = true := by simp [hz]
          generalize C k = X at *
          clear hz hcell hcell'
          go_wp2
          go_ret
          exact ⟨⟨_, rfl, fun _ => rfl⟩, hb⟩
        · have hz' : (C k == 0) = false := by simp [hz]
          generalize C k = X at *
          clear hz hcell'
          have hki : (k : Int) < (n0 : Int) := by omega
          by_cases hk0 : 0 < k
          · obtain ⟨k, rfl⟩ : ∃ m, k = m + 1 := ⟨k - 1, by omega⟩
            have g2 := (hb.cell (p := ⟨b, off + k, none⟩) hbs).trans (hcell k (by omega))
            have hkp : (0 : Int) < ((k + 1 : Nat) : Int) := by omega
            have hki2 : (k : Int) < (n0 : Int) := by omega
            clear hcell
            generalize S (k + 1) = s1 at *
            generalize S k = s2 at *
            go_wp2_with fail
            go_quiet (fail)
            go_wp2
            · go_ret
              exact ⟨⟨_, rfl, fun _ => rfl⟩, below_drewN hb _⟩
            · go_roundw
              case rel => exact ⟨k + 1 + 1, by omega, by go_num, below_drewN hb _⟩
              case measure => simp [intOf]; omega
          · have hd : decide ((0 : Int) < (k : Int)) = false := decide_eq_false (by omega)
            have hd1 : decide (0 < k) = false := decide_eq_false (by omega)
            clear hcell
            go_wp2_with fail
            go_quiet (fail)
            go_wp2
            go_roundw
            case rel => exact ⟨k + 1, by omega, by go_num, below_drewN hb _⟩
            case measure => simp [intOf]; omega
      · go_wp2
        go_ret
        exact ⟨⟨_, rfl, fun _ => rfl⟩, hb⟩
  · have hne : ((n0 : Int) != (n1 : Int)) = true := by simp; omega
    go_enter Try.func8, Try.ntmps8
    go_wp2
    go_ret
    exact ⟨⟨false, rfl, fun h => (by cases h)⟩, Below.refl _ _⟩


theorem hide {p : Prop} (h : p) : Hid p := h

theorem clone_cur (w : World) (z : Value) (n te : Nat) : (w.alloc (.cells (madeCells #[z] n) te)).heap[w.heap.size]? = some (.cells (madeCells #[z] n).toList.toArray te (0, 0)) := by
  rw [Array.toArray_toList]
  exact heap_alloc_new w _

theorem clone_src {w : World} {a : Addr} {n te : Nat} {V : Nat → Value} {z : Value} (h : VRow w (some a) n V) :
    0 < ((List.range n).map V).length → some (⟨w.heap.size, 0, none⟩ : Addr) = some ⟨w.heap.size, 0, none⟩ ∧ ∃ ad, some a = some ad ∧ ∀ j v, ((List.range n).map V)[j]? = some v → (w.alloc (.cells (madeCells #[z] n) te)).cell? (ad.add j) = some v := by
  intro h0
  refine ⟨rfl, a, rfl, fun j v hj => ?_⟩
  simp at h0
  obtain ⟨b, off, ha, hb, hc⟩ := h.cell (k := 0) h0
  simp only [Option.some.injEq] at ha
  subst ha
  simp only [List.getElem?_map, Option.map_eq_some_iff] at hj
  obtain ⟨k, hk, rfl⟩ := hj
  obtain ⟨hlt, hk⟩ := List.getElem?_eq_some_iff.1 hk
  simp at hlt hk
  subst hk
  rw [Go.WideShapes.add_plain, World.cell?_alloc_lt _ _ _ (by exact hb)]
  exact hc _ hlt

theorem clone_row {w : World} {g n te : Nat} {V : Nat → Value} {z : Value} (h : w.heap[g]? = some (.cells (splice (madeCells #[z] n).toList 0 ((List.range n).map V)).toArray te (0, 0))) : VRow w (some ⟨g, 0, none⟩) n V := by
  refine vrow_of_row (t := te) ⟨_, h, ?_, fun i hi => ?_⟩
  · simp [splice, size_madeCells]
  · simp [splice, List.getElem?_append_left, hi]

/-- 'cloneStrings': the same values, in new memory. -/
theorem cloneStrings_any (a : Option Addr) (n c : Nat) (S : Nat → ByteArray) (w : World) (hn : n ≤ 65536) (ha : a = none → n = 0 ∧ c = 0) (hr : VRow w a n (fun i => .string (S i))) :
    Calls Try.prog 9 #[.slice a n c] w fun e w' => RetV w n (fun i => .string (S i)) e w' := by
  have q22 : ∀ (w : World) (a : Option Addr) (n c n' c' : Nat), (binOp .eql 22 (.slice a n c) (.slice none n' c')).run Try.prog w = .ok (.bool a.isNone) w := fun w a n c n' c' => Lib.run_eql_slice_nil w _ _ a n c n' c' Try.underlying22
  cases a with
  | none =>
    obtain ⟨rfl, rfl⟩ := ha rfl
    go_enter Try.func9, Try.ntmps9
    go_wp2
    go_ret
    exact ⟨none, 0, rfl, fun _ => rfl, .inl rfl, Below.refl _ _⟩
  | some a =>
    clear ha
    have hmk := run_make_row' (P := Try.prog) 22 9 (.string ByteArray.empty) 16 Try.underlying22 info9 rfl .i64 .i64 n (by omega) (by omega)
    have hsz : (Try.prog.info? 9).map (·.size) = some 1 := by kernel_rfl
    have hcur := clone_cur w (.string ByteArray.empty) n 9
    have hpos := hide (clone_src (z := .string ByteArray.empty) (te := 9) hr)
    have hcur' := hide hcur
    clear hcur
    have hone : ∀ v ∈ (List.range n).map (fun i => Value.string (S i)), v.oneCell' = true := by
      intro v hv
      obtain ⟨i, _, rfl⟩ := List.mem_map.1 hv
      rfl
    go_enter Try.func9, Try.ntmps9
    go_wp2_with (refine wpList_copy_splice rfl (.tmp 9) (.tmp 10) 22 22 rfl 9 Try.underlying22 hsz (some ⟨w.heap.size, 0, none⟩) (some a) n n n c rfl rfl w.heap.size 0 (madeCells #[.string ByteArray.empty] n).toList 9 hcur'.out ((List.range n).map (fun i => .string (S i))) (by simp) hpos.out (by simp [size_madeCells]) hone w.heap.size w ((Below.refl _ _).alloc (Nat.le_refl _) _) (Nat.le_refl _) ?_; intro w1 hrow hb1)
    go_ret
    exact ⟨some ⟨w.heap.size, 0, none⟩, n, rfl, fun h => (by cases h), clone_row hrow.out, hb1⟩


/-- 'cloneCounts': the same values, in new memory. -/
theorem cloneCounts_any (a : Option Addr) (n c : Nat) (S : Nat → Int) (w : World) (hn : n ≤ 65536) (ha : a = none → n = 0 ∧ c = 0) (hr : VRow w a n (fun i => .int .u64 (S i))) :
    Calls Try.prog 10 #[.slice a n c] w fun e w' => RetV w n (fun i => .int .u64 (S i)) e w' := by
  have q22 : ∀ (w : World) (a : Option Addr) (n c n' c' : Nat), (binOp .eql 23 (.slice a n c) (.slice none n' c')).run Try.prog w = .ok (.bool a.isNone) w := fun w a n c n' c' => Lib.run_eql_slice_nil w _ _ a n c n' c' Try.underlying23
  cases a with
  | none =>
    obtain ⟨rfl, rfl⟩ := ha rfl
    go_enter Try.func10, Try.ntmps10
    go_wp2
    go_ret
    exact ⟨none, 0, rfl, fun _ => rfl, .inl rfl, Below.refl _ _⟩
  | some a =>
    clear ha
    have hmk := run_make_row' (P := Try.prog) 23 41 (.int .u64 0) 8 Try.underlying23 info41 rfl .i64 .i64 n (by omega) (by omega)
    have hsz : (Try.prog.info? 41).map (·.size) = some 1 := by kernel_rfl
    have hcur := clone_cur w (.int .u64 0) n 41
    have hpos := hide (clone_src (z := .int .u64 0) (te := 41) hr)
    have hcur' := hide hcur
    clear hcur
    have hone : ∀ v ∈ (List.range n).map (fun i => Value.int .u64 (S i)), v.oneCell' = true := by
      intro v hv
      obtain ⟨i, _, rfl⟩ := List.mem_map.1 hv
      rfl
    go_enter Try.func10, Try.ntmps10
    go_wp2_with (refine wpList_copy_splice rfl (.tmp 9) (.tmp 10) 23 23 rfl 41 Try.underlying23 hsz (some ⟨w.heap.size, 0, none⟩) (some a) n n n c rfl rfl w.heap.size 0 (madeCells #[.int .u64 0] n).toList 41 hcur'.out ((List.range n).map (fun i => .int .u64 (S i))) (by simp) hpos.out (by simp [size_madeCells]) hone w.heap.size w ((Below.refl _ _).alloc (Nat.le_refl _) _) (Nat.le_refl _) ?_; intro w1 hrow hb1)
    go_ret
    exact ⟨some ⟨w.heap.size, 0, none⟩, n, rfl, fun h => (by cases h), clone_row hrow.out, hb1⟩


theorem compareString_any (a b : ByteArray) (w : World) :
    Calls Try.prog 22 #[.string a, .string b] w fun e w' => e = .returned (.int .i64 (Lib.compareBytes a.data.toList b.data.toList)) ∧ w' = w := by
  go_enter Try.func22, Try.ntmps22
  go_wp2
  rw [run_callFunc_extern Try.func23 (by kernel_rfl) (by kernel_rfl) (by kernel_rfl) (e := Extern.BytealgCompare.compare) (by kernel_rfl), Lib.run_compareString]
  simp only [Result.andThen]
  rw [Oper.upon_value]
  go_wp2
  go_ret
  exact ⟨rfl, rfl⟩

theorem compare_any (a b : ByteArray) (w : World) :
    Calls Try.prog 20 #[.string a, .string b] w fun e w' => e = .returned (.int .i64 (Lib.compareBytes a.data.toList b.data.toList)) ∧ w' = w := by
  go_enter Try.func20, Try.ntmps20
  go_wp2_with (go_at_call 22; refine (compareString_any _ _ _).mono ?_; rintro e w' ⟨rfl, rfl⟩)
  go_ret
  exact ⟨rfl, rfl⟩

end Go.Proofs.Qxb6603280a
