/-
  THE WALK of the law (4) of seat b6604770aF, out of the contracts.
-/
import Derived.Test.Qxb6604770aFmtW1
namespace Go.Proofs.Qxb6604770aFmt
open Go.RowKit Zz Go.Lib

def RetTrue (w : World) (e : Ending) (w' : World) : Prop := e = .returned (.bool true) ∧ Below w.heap.size w w'
theorem info5 : (Tryf.prog.info? 5).map (fun i => (i.zero, i.size, i.bytes)) = some (some (.int .u8 0), 1, 1) := by kernel_rfl

theorem below_drewN {B : Nat} {w wr : World} (h : Below B w wr) (k : Nat) : Below B w (wr.drewN k) := ⟨h.os, h.tape, h.output, h.size, h.block⟩

theorem text_of (l : List UInt8) : (strOfNums (Hx.nums l)).data.toList = Hx.encode l := by rw [Hx.strOfNums_nums]

theorem byte_at (l : List UInt8) (k : Nat) (hk : k < l.length) : l[k]? = some (l.getD k 0) := by simp [hk]

theorem digit_hi (x : Int) (w : World) (h0 : 0 ≤ x) (h1 : x < 256) : Calls Tryf.prog 9 #[.int .u8 (x / 16)] w fun e w' => e = .returned (.int .u8 ((Hx.digit (x.toNat / 16)).toNat : Int)) ∧ w' = w := by
  have h := digit_any (x / 16) w (by omega) (by omega)
  rw [show (x / 16).toNat = x.toNat / 16 by omega] at h
  exact h

theorem digit_lo (x : Int) (w : World) (h0 : 0 ≤ x) (h1 : x < 256) : Calls Tryf.prog 9 #[.int .u8 (x % 16)] w fun e w' => e = .returned (.int .u8 ((Hx.digit (x.toNat % 16)).toNat : Int)) ∧ w' = w := by
  have h := digit_any (x % 16) w (by omega) (by omega)
  rw [show (x % 16).toNat = x.toNat % 16 by omega] at h
  exact h

set_option maxRecDepth 10000 in
set_option maxHeartbeats 2000000 in
theorem law_any (a : Option Addr) (n c : Nat) (l : List UInt8) (w : World) (ev : Value) (h0 : n ≤ maxLen) (hl : l.length = n) (ha : a = none → n = 0 ∧ c = 0)
    (hr : VRow w a n (fun i => .int .u8 ((l.getD i 0).toNat : Int))) (hE : w.cell? ⟨0, 0, none⟩ = some ev) :
    Calls Tryf.prog 4 #[.slice a n c] w fun e w' => RetTrue w e w' := by
  have h8 := bytes_any a n c w h0
  have q23 : ∀ (w : World) (a : Option Addr) (n c n' c' : Nat), (binOp .neq 23 (.slice a n c) (.slice none n' c')).run Tryf.prog w = .ok (.bool (!a.isNone)) w := fun w a n c n' c' => run_neq_slice_nil_any w 23 5 a n c n' c' Tryf.underlying23
  have HL := hide hl
  have HA := hide ha
  have HE := hide hE
  have h00 : (0 : Nat) < w.heap.size := World.block_lt_of_cell? w ⟨0, 0, none⟩ hE
  unfold maxLen at h0
  clear hl ha hE
  go_enter Tryf.func4, Tryf.ntmps4
  go_wp2_with fail
  refine h8.mono ?_
  rintro e w1 ⟨⟨b, rfl⟩, hw1⟩
  obtain rfl := hw1.symm
  clear h8
  cases b with
  | false =>
    go_wp2
    go_ret
    exact ⟨rfl, Below.refl _ _⟩
  | true =>
  by_cases t0 : 524288 < n
  · go_wp2_with fail
    go_ret
    exact ⟨rfl, Below.refl _ _⟩
  have hn : n ≤ 524288 := by omega
  cases a with
  | none =>
    have hb0 : Below w.heap.size w w := Below.refl _ _
    have V0 := hr
    clear hr
    have hmk2 := run_make_row' (P := Tryf.prog) 23 5 (.int .u8 0) 1 Tryf.underlying23 info5 rfl .i64 .i64 (2 * n) (by omega) (by omega)
    rw [show ((2 * n : Nat) : Int) = 2 * (n : Int) by omega] at hmk2
    go_wp2_with fail
    clear hmk2
    go_loopw [6] (fun i wr => ∃ k : Nat, k ≤ n ∧ i = .int .i64 k ∧ wr.rowIs w.heap.size 5 (2 * n) (Hx.row (fun _ => .int .u8 0) 0 l k) ∧ Below w.heap.size w wr) (fun i _ => n - (RowKit.intOf i).toNat)
    case atStart => exact ⟨0, Nat.zero_le _, rfl, (World.rowIs_made w (.int .u8 0) (2 * n) 5).congr (fun i _ => Hx.row_zero (fun _ => Value.int .u8 0) 0 l i), (Below.refl _ _).alloc (Nat.le_refl _) _⟩
    case round =>
      obtain ⟨k, hk, rfl, hrow, hb⟩ := hrel
      by_cases hlt : k < n
      · obtain ⟨b, off, ha, hbs, hcell⟩ := V0.cell hlt
        have hx0 : (0 : Int) ≤ ((l.getD k 0).toNat : Int) := by omega
        have hx1 : ((l.getD k 0).toNat : Int) < 256 := by have := (l.getD k 0).toNat_lt; omega
        have g0 : wr.cell? ⟨b, off + k, none⟩ = some (.int .u8 ((l.getD k 0).toNat : Int)) := (hb.cell (p := ⟨b, off + k, none⟩) hbs).trans (hcell k hlt)
        exact absurd ha (by simp)
      · have hb1 : Below w.heap.size w wr := hb0.trans (hb.mono hb0.size)
        have V1 := V0.below hb
        have hke : k = n := by omega
        subst hke
        have hcv := run_convert_bytes_arg (P := Tryf.prog) wr 23 5 Tryf.underlying23 Tryf.underlying5 w.heap.size 0 (2 * k) (2 * k) (Hx.nums l) (by rw [Hx.nums_length, HL.out]) (fun i hi => by rw [Nat.zero_add, ← Hx.row_in (fun _ => .int .u8 0) l k i hi]; exact hrow.cell hi) 9 Tryf.underlying9
        clear hrow
        go_wp2_with fail
        clear hcv
        refine (zzparse_any (strOfNums (Hx.nums l)) l k _ ev (text_of l) HL.out hn ((hb1.cell (p := ⟨0, 0, none⟩) h00).trans HE.out)).mono ?_
        rintro e w2 ⟨g, cg, rfl, hG, hb2⟩
        have hbb : Below w.heap.size w w2 := hb1.trans (hb2.mono hb1.size)
        have V2 := V1.below hb2
        clear V0 V1 hb hb0 hb1 hb2
        go_wp2_with fail
        go_loopw [9] (fun i wr => ∃ j : Nat, j ≤ k ∧ i = .int .i64 j ∧ Below w2.heap.size w2 wr) (fun i _ => k - (RowKit.intOf i).toNat)
        case atStart => exact ⟨0, Nat.zero_le _, rfl, Below.refl _ _⟩
        case round =>
          obtain ⟨j, hj, rfl, hb3⟩ := hrel
          by_cases hlt2 : j < k
          · obtain ⟨b, off, ha, hbs, hcell⟩ := V2.cell hlt2
            exact absurd ha (by simp)
          · go_wp2_with fail
            go_ret
            exact ⟨rfl, hbb.trans (hb3.mono hbb.size)⟩
  | some a =>
    have hmk := run_make_row' (P := Tryf.prog) 23 5 (.int .u8 0) 1 Tryf.underlying23 info5 rfl .i64 .i64 n (by omega) (by omega)
    go_wp2_with fail
    clear hmk q23
    go_loopw [4] (fun i wr => ∃ k : Nat, k ≤ n ∧ i = .int .i64 k ∧ wr.rowIs w.heap.size 5 n (fun j => if j < k then .int .u8 ((l.getD j 0).toNat : Int) else .int .u8 0) ∧ Below w.heap.size w wr) (fun i _ => n - (RowKit.intOf i).toNat)
    case atStart => exact ⟨0, Nat.zero_le _, rfl, (World.rowIs_made w (.int .u8 0) n 5).congr (fun i _ => by simp), (Below.refl _ _).alloc (Nat.le_refl _) _⟩
    case round =>
      obtain ⟨k, hk, rfl, hrow, hb⟩ := hrel
      by_cases hlt : k < n
      · obtain ⟨b, off, ha, hbs, hcell⟩ := hr.cell hlt
        simp only [Option.some.injEq] at ha
        subst ha
        have g0 : wr.cell? ⟨b, off + k, none⟩ = some (.int .u8 ((l.getD k 0).toNat : Int)) := (hb.cell (p := ⟨b, off + k, none⟩) hbs).trans (hcell k hlt)
        have e0 : wr.cell? ⟨w.heap.size, k, none⟩ = some (.int .u8 0) := by have := hrow.cell hlt; simpa using this
        have f0 := hrow.frozen k
        have R1 : (wr.setCell ⟨w.heap.size, k, none⟩ (.int .u8 ((l.getD k 0).toNat : Int))).rowIs w.heap.size 5 n (fun j => if j < k + 1 then .int .u8 ((l.getD j 0).toNat : Int) else .int .u8 0) := (hrow.set k (.int .u8 ((l.getD k 0).toNat : Int))).congr (fun i _ => by
          by_cases e : i = k
          · subst e; simp
          · by_cases e2 : i < k
            · simp [e, e2, show i < k + 1 by omega]
            · simp [e, e2, show ¬ i < k + 1 by omega])
        have R2 := hb.setCell (p := ⟨w.heap.size, k, none⟩) (Nat.le_refl _) (.int .u8 ((l.getD k 0).toNat : Int))
        clear hcell hrow hb hr
        generalize (l.getD k 0).toNat = x at *
        go_wp2
        go_roundw
        case rel => exact ⟨k + 1, by omega, by go_num, R1, R2⟩
        case measure => simp [RowKit.intOf]; omega
      · have hb0 := hb
        have V0 : VRow wr (some ⟨w.heap.size, 0, none⟩) n (fun i => .int .u8 ((l.getD i 0).toNat : Int)) := vrow_of_row (hrow.congr (fun i hi => by simp [show i < k by omega]))
        obtain ⟨w0, rfl⟩ : ∃ x, x = wr := ⟨_, rfl⟩
        clear hrow hb hr
        generalize (some ⟨w.heap.size, 0, none⟩ : Option Addr) = a0 at *
        have hmk2 := run_make_row' (P := Tryf.prog) 23 5 (.int .u8 0) 1 Tryf.underlying23 info5 rfl .i64 .i64 (2 * n) (by omega) (by omega)
        rw [show ((2 * n : Nat) : Int) = 2 * (n : Int) by omega] at hmk2
        go_wp2_with fail
        clear hmk2
        go_loopw [6] (fun i wr => ∃ k : Nat, k ≤ n ∧ i = .int .i64 k ∧ wr.rowIs w0.heap.size 5 (2 * n) (Hx.row (fun _ => .int .u8 0) 0 l k) ∧ Below w0.heap.size w0 wr) (fun i _ => n - (RowKit.intOf i).toNat)
        case atStart => exact ⟨0, Nat.zero_le _, rfl, (World.rowIs_made w0 (.int .u8 0) (2 * n) 5).congr (fun i _ => Hx.row_zero (fun _ => Value.int .u8 0) 0 l i), (Below.refl _ _).alloc (Nat.le_refl _) _⟩
        case round =>
          obtain ⟨k, hk, rfl, hrow, hb⟩ := hrel
          by_cases hlt : k < n
          · obtain ⟨b, off, ha, hbs, hcell⟩ := V0.cell hlt
            have hx0 : (0 : Int) ≤ ((l.getD k 0).toNat : Int) := by omega
            have hx1 : ((l.getD k 0).toNat : Int) < 256 := by have := (l.getD k 0).toNat_lt; omega
            have g0 : wr.cell? ⟨b, off + k, none⟩ = some (.int .u8 ((l.getD k 0).toNat : Int)) := (hb.cell (p := ⟨b, off + k, none⟩) hbs).trans (hcell k hlt)
            subst ha
            have H := hide (fun i => Hx.row_step (fun _ => .int .u8 0) 0 l k (l.getD k 0) (byte_at l k (by rw [HL.out]; exact hlt)) i)
            generalize hxx : ((l.getD k 0).toNat : Int) = x at *
            have hxn : (l.getD k 0).toNat = x.toNat := by omega
            rw [hxn] at H
            have e0 : wr.cell? ⟨w0.heap.size, 2 * k, none⟩ = some (Hx.row (fun _ => .int .u8 0) 0 l k (2 * k)) := hrow.cell (by omega)
            have f0 := hrow.frozen (2 * k)
            have hin : 0 ≤ 2 * (k : Int) ∧ 2 * (k : Int) < 2 * (n : Int) := by omega
            have hin1 : 0 ≤ 2 * (k : Int) + 1 ∧ 2 * (k : Int) + 1 < 2 * (n : Int) := by omega
            have R1 := hrow.set (2 * k) (.int .u8 ((Hx.digit (x.toNat / 16)).toNat : Int))
            have R1b := hb.setCell (p := ⟨w0.heap.size, 2 * k, none⟩) (Nat.le_refl _) (.int .u8 ((Hx.digit (x.toNat / 16)).toNat : Int))
            have g1 : (wr.setCell ⟨w0.heap.size, 2 * k, none⟩ (.int .u8 ((Hx.digit (x.toNat / 16)).toNat : Int))).cell? ⟨b, off + k, none⟩ = some (.int .u8 x) := (R1b.cell (p := ⟨b, off + k, none⟩) hbs).trans (hcell k hlt |>.trans (by rw [hxx]))
            have e1 := R1.cell (show 2 * k + 1 < 2 * n by omega)
            have f1 := R1.frozen (2 * k + 1)
            have R2 : ((wr.setCell ⟨w0.heap.size, 2 * k, none⟩ (.int .u8 ((Hx.digit (x.toNat / 16)).toNat : Int))).setCell ⟨w0.heap.size, 2 * k + 1, none⟩ (.int .u8 ((Hx.digit (x.toNat % 16)).toNat : Int))).rowIs w0.heap.size 5 (2 * n) (Hx.row (fun _ => .int .u8 0) 0 l (k + 1)) :=
              (R1.set (2 * k + 1) (.int .u8 ((Hx.digit (x.toNat % 16)).toNat : Int))).congr (fun i _ => by rw [← H.out i, Nat.zero_add, Nat.zero_add])
            have R2b := R1b.setCell (p := ⟨w0.heap.size, 2 * k + 1, none⟩) (Nat.le_refl _) (.int .u8 ((Hx.digit (x.toNat % 16)).toNat : Int))
            have D1 := digit_hi x wr hx0 hx1
            have D2 := digit_lo x (wr.setCell ⟨w0.heap.size, 2 * k, none⟩ (.int .u8 ((Hx.digit (x.toNat / 16)).toNat : Int))) hx0 hx1
            clear hcell hrow hb V0 H hxn hxx R1 R1b
            generalize ((Hx.digit (x.toNat / 16)).toNat : Int) = y1 at *
            generalize ((Hx.digit (x.toNat % 16)).toNat : Int) = y2 at *
            go_wp2_with fail
            refine D1.mono ?_
            rintro e w' ⟨rfl, hw'⟩
            obtain rfl := hw'.symm
            go_wp2_with fail
            refine D2.mono ?_
            rintro e w' ⟨rfl, hw'⟩
            obtain rfl := hw'.symm
            go_wp2_with fail
            go_roundw
            case rel => exact ⟨k + 1, by omega, by go_num, R2, R2b⟩
            case measure => simp [RowKit.intOf]; omega
          · have hb1 : Below w.heap.size w wr := hb0.trans (hb.mono hb0.size)
            have V1 := V0.below hb
            have hke : k = n := by omega
            subst hke
            have hcv := run_convert_bytes_arg (P := Tryf.prog) wr 23 5 Tryf.underlying23 Tryf.underlying5 w0.heap.size 0 (2 * k) (2 * k) (Hx.nums l) (by rw [Hx.nums_length, HL.out]) (fun i hi => by rw [Nat.zero_add, ← Hx.row_in (fun _ => .int .u8 0) l k i hi]; exact hrow.cell hi) 9 Tryf.underlying9
            clear hrow
            go_wp2_with fail
            clear hcv
            refine (zzparse_any (strOfNums (Hx.nums l)) l k _ ev (text_of l) HL.out hn ((hb1.cell (p := ⟨0, 0, none⟩) h00).trans HE.out)).mono ?_
            rintro e w2 ⟨g, cg, rfl, hG, hb2⟩
            have hbb : Below w.heap.size w w2 := hb1.trans (hb2.mono hb1.size)
            have V2 := V1.below hb2
            clear V0 V1 hb hb0 hb1 hb2
            go_wp2_with fail
            go_loopw [9] (fun i wr => ∃ j : Nat, j ≤ k ∧ i = .int .i64 j ∧ Below w2.heap.size w2 wr) (fun i _ => k - (RowKit.intOf i).toNat)
            case atStart => exact ⟨0, Nat.zero_le _, rfl, Below.refl _ _⟩
            case round =>
              obtain ⟨j, hj, rfl, hb3⟩ := hrel
              by_cases hlt2 : j < k
              · obtain ⟨b, off, ha, hbs, hcell⟩ := V2.cell hlt2
                obtain ⟨b', off', ha', hbs', hcell'⟩ := hG.cell hlt2
                simp only [Option.some.injEq, Addr.mk.injEq, and_true] at ha'
                obtain ⟨rfl, rfl⟩ := ha'
                subst ha
                have g0 := (hb3.cell (p := ⟨b, off + j, none⟩) hbs).trans (hcell j hlt2)
                have g1 := (hb3.cell (p := ⟨g, 0 + j, none⟩) hbs').trans (hcell' j hlt2)
                rw [Nat.zero_add] at g1
                clear hcell hcell'
                generalize (l.getD j 0).toNat = x at *
                go_wp2_with fail
                go_quiet (fail)
                go_wp2_with fail
                go_roundw
                case rel => exact ⟨j + 1, by omega, by go_num, below_drewN hb3 _⟩
                case measure => simp [RowKit.intOf]; omega
              · go_wp2_with fail
                go_ret
                exact ⟨rfl, hbb.trans (hb3.mono hbb.size)⟩
end Go.Proofs.Qxb6604770aFmt
