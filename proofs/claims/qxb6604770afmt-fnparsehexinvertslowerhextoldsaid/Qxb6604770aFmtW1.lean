/-
  THE WALKS of the functions on the road of seat b6604770aF: the bound (8), the digit (9), parseHex (10, 6) at the lower-case hex of a list of bytes. encoding/hex.DecodeString (12) by the shelf's contract.
-/
import Derived.Test.Qxb6604770aFmtRows
import Derived.ProofKit
import Derived.RegionTactic
import Derived.BigRegion
import Derived.ChangeAlike
import Derived.Deep.QuietTactic
import Derived.BigQuiet
import Derived.LoopTactic
import Derived.WalkSpells
import Derived.WalkLawsBesides
import Derived.Laws.BytesArg
import Derived.Test.Qxb6604770aFmtBase
import Derived.Test.Qxb6604770aFmtPlain
import Derived.Test.Qxb6604770aFmtShelf
namespace Go.Proofs.Qxb6604770aFmt
open Go.RowKit Zz Go.Lib

theorem bytes_any (a : Option Addr) (n c : Nat) (w : World) (h : n ≤ maxLen) : Calls Tryf.prog 8 #[.slice a n c] w fun e w' => (∃ b, e = .returned (.bool b)) ∧ w' = w := by
  unfold maxLen at h
  go_enter Tryf.func8, Tryf.ntmps8
  go_wp2
  all_goals (go_ret; exact ⟨⟨_, rfl⟩, rfl⟩)

theorem digit_any (y : Int) (w : World) (h0 : 0 ≤ y) (h1 : y < 16) : Calls Tryf.prog 9 #[.int .u8 y] w fun e w' => e = .returned (.int .u8 ((Hx.digit y.toNat).toNat : Int)) ∧ w' = w := by
  have hd := Hexy.digit_num ⟨y.toNat, by omega⟩
  simp only at hd
  have HD := hide hd
  clear hd
  by_cases hy : y < 10
  · have H : Hid (48 + y = ((Hx.digit y.toNat).toNat : Int)) := by show 48 + y = _; rw [HD.out, if_pos (by omega)]; omega
    go_enter Tryf.func9, Tryf.ntmps9
    go_wp2
    go_ret
    exact ⟨by rw [← H.out]; rfl, rfl⟩
  · have H : Hid (97 + y - 10 = ((Hx.digit y.toNat).toNat : Int)) := by show 97 + y - 10 = _; rw [HD.out, if_neg (by omega)]; omega
    go_enter Tryf.func9, Tryf.ntmps9
    go_wp2
    go_ret
    exact ⟨by rw [← H.out]; rfl, rfl⟩

/-- What a parse of the hex of l hands back: the bytes l in new memory, no error. -/
def RetP (w : World) (l : List UInt8) (n : Nat) (e : Ending) (w' : World) : Prop := ∃ g c, e = .returned (.tuple #[.slice (some ⟨g, 0, none⟩) n c, .nilIface]) ∧ VRow w' (some ⟨g, 0, none⟩) n (fun i => .int .u8 ((l.getD i 0).toNat : Int)) ∧ Below w.heap.size w w'

theorem decode_any (s : ByteArray) (l : List UInt8) (n : Nat) (w : World) (ev : Value) (hs : s.data.toList = Hx.encode l) (hl : l.length = n) (hn : n ≤ 524288) (hE : w.cell? ⟨0, 0, none⟩ = some ev) :
    Calls Tryf.prog 12 #[.string s] w fun e w' => RetP w l n e w' := by
  have hsz : s.size = 2 * n := by rw [Lib.size_eq, hs, Hx.encode_length, hl]
  have h := Any.hex_DecodeString Tryf.lays43 s w ev hE (by omega)
  rw [hs, Hexy.decode_encode l] at h
  refine h.mono ?_
  rintro e w' ⟨rfl, hrow, hb⟩
  dsimp only at hrow
  refine ⟨w.heap.size, s.size / 2, by rw [hl]; rfl, ?_, hb⟩
  rw [show s.size / 2 = n by omega] at hrow
  refine vrow_of_row (hrow.congr (fun i hi => ?_))
  unfold Hx.rowP
  dsimp only
  rw [hl, if_pos (by omega), Nat.sub_zero]
  rw [List.getD_eq_getElem?_getD]

set_option maxHeartbeats 1000000 in
theorem parse_any (s : ByteArray) (l : List UInt8) (n : Nat) (w : World) (ev : Value) (hs : s.data.toList = Hx.encode l) (hl : l.length = n) (hn : n ≤ 524288) (hE : w.cell? ⟨0, 0, none⟩ = some ev) :
    Calls Tryf.prog 10 #[.string s] w fun e w' => RetP w l n e w' := by
  have hsz : s.size = 2 * n := by rw [Lib.size_eq, hs, Hx.encode_length, hl]
  have hbig : s.size ≤ 1048576 := by omega
  have HS := hide hs
  have HL := hide hl
  have HE := hide hE
  have hcv := fun w => run_bytes_of_string (P := Tryf.prog) w 9 23 5 s Tryf.underlying9 Tryf.underlying23 Tryf.underlying5
  clear hs hl hE hsz
  go_enter Tryf.func10, Tryf.ntmps10
  go_wp2
  clear hcv
  generalize grownCap w s.size 0 5 = cap
  go_loop [9] (fun i => ∃ k : Nat, k ≤ s.size ∧ i = .int .i64 k) (fun i => s.size - (RowKit.intOf i).toNat)
  case atStart => exact ⟨0, Nat.zero_le _, rfl⟩
  case round =>
    obtain ⟨k, hk, rfl⟩ := hrel
    by_cases hlt : k < s.size
    · have hlt' : k < s.data.size := hlt
      have hc0 : (w.alloc (.cells (bytesRow s cap) 5 ((bytesRow s cap).size, (bytesRow s cap).size + 1))).cell? ⟨w.heap.size, k, none⟩ = some (.int .u8 (s.data[k].toNat : Int)) := by
        rw [World.cell?_alloc_mark]
        exact bytesRow_at s cap k hlt'
      have hr := Hexy.encode_lower l s.data[k] (by rw [← HS.out]; exact Array.mem_toList_iff.2 (Array.getElem_mem _))
      generalize s.data[k].toNat = x at *
      rcases hr with ⟨r1, r2⟩ | ⟨r1, r2⟩
      · have r3 : (48 : Int) ≤ (x : Int) := by omega
        have r4 : (x : Int) ≤ 57 := by omega
        go_wp2
        go_round
        case rel => exact ⟨k + 1, by omega, by go_num⟩
        case measure => simp [RowKit.intOf]; omega
      · have r3 : (97 : Int) ≤ (x : Int) := by omega
        have r4 : (x : Int) ≤ 102 := by omega
        go_wp2
        go_round
        case rel => exact ⟨k + 1, by omega, by go_num⟩
        case measure => simp [RowKit.intOf]; omega
    · have hb : Below w.heap.size w (w.alloc (.cells (bytesRow s cap) 5 ((bytesRow s cap).size, (bytesRow s cap).size + 1))).drew := ((Below.refl _ _).alloc (Nat.le_refl _) _).drew
      have h0 : (0 : Nat) < w.heap.size := World.block_lt_of_cell? w ⟨0, 0, none⟩ HE.out
      go_wp2_with fail
      refine (decode_any s l n _ ev HS.out HL.out hn ((hb.cell (p := ⟨0, 0, none⟩) h0).trans HE.out)).mono ?_
      rintro e w2 ⟨g, c, rfl, hrow, hb2⟩
      go_wp2
      go_ret2
      exact ⟨g, c, rfl, hrow, hb.trans (hb2.mono hb.size)⟩

theorem zzparse_any (s : ByteArray) (l : List UInt8) (n : Nat) (w : World) (ev : Value) (hs : s.data.toList = Hx.encode l) (hl : l.length = n) (hn : n ≤ 524288) (hE : w.cell? ⟨0, 0, none⟩ = some ev) :
    Calls Tryf.prog 6 #[.string s] w fun e w' => RetP w l n e w' := by
  have h10 := parse_any s l n w ev hs hl hn hE
  clear hs hl hE
  go_enter Tryf.func6, Tryf.ntmps6
  go_wp2_with fail
  refine h10.mono ?_
  rintro e w2 ⟨g, c, rfl, hrow, hb2⟩
  go_wp2
  go_ret2
  exact ⟨g, c, rfl, hrow, hb2⟩
end Go.Proofs.Qxb6604770aFmt
