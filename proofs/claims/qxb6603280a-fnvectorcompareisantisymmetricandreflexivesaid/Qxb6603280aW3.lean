/-
  THE WALK of 'Vector.Compare' (12): it answers the order that 'Vec.comp' of the two lists of entries gives.
-/
import Derived.Test.Qxb6603280aW2
import Derived.Deep.LoopGhost
namespace Go.Proofs.Qxb6603280a
open Go.RowKit Zz

def RetOrd (w : World) (r : Bool × Bool) (e : Ending) (w' : World) : Prop := e = .returned (.string (ordS r)) ∧ Below w.heap.size w w'

set_option maxRecDepth 10000 in
set_option maxHeartbeats 2000000 in
theorem compareVec_any (a0 a1 : Option Addr) (c0 c1 : Nat) (V U : List Vec.Ent) (w : World) (hn : V.length ≤ 65536) (hm : U.length ≤ 65536)
    (hV : PRow w a0 V.length (fun i => V.getD i Vec.e0)) (hU : PRow w a1 U.length (fun i => U.getD i Vec.e0)) :
    Calls Try.prog 12 #[.agg #[.slice a0 V.length c0], .agg #[.slice a1 U.length c1]] w fun e w' => RetOrd w (Vec.comp V U) e w' := by
  have HS := Vec.St.start (v := V) (w := U)
  generalize Vec.comp V U = R at *
  generalize V.length + U.length + 1 = f0 at *
  obtain ⟨n, hn'⟩ : ∃ n, V.length = n := ⟨_, rfl⟩
  obtain ⟨m, hm'⟩ : ∃ n, U.length = n := ⟨_, rfl⟩
  rw [hn'] at hn hV ⊢
  rw [hm'] at hm hU ⊢
  have HN : Hid (V.length = n) := hn'
  have HM : Hid (U.length = m) := hm'
  clear hn' hm'
  go_enter Try.func12, Try.ntmps12
  go_wp2
  go_loopg [5, 6, 7, 8] f0 (fun f x5 x6 x7 x8 wr => ∃ (b a : Bool) (i j : Nat), x5 = .bool b ∧ x6 = .bool a ∧ x7 = .int .i64 i ∧ x8 = .int .i64 j ∧ i ≤ n ∧ j ≤ m ∧ Vec.St V U R f i j b a ∧
    Below (w.heap.size + 2) ((w.alloc (.cells #[.slice a0 n c0] 31)).alloc (.cells #[.slice a1 m c1] 31)) wr)
  case atStart => exact ⟨false, false, 0, 0, rfl, rfl, rfl, rfl, Nat.zero_le _, Nat.zero_le _, HS, Below.refl _ _⟩
  case round =>
    clear HS
    obtain ⟨b, a, i, j, rfl, rfl, rfl, rfl, hi, hj, HS, hb⟩ := hrel
    obtain ⟨f, rfl⟩ := HS.pos
    have RW : Below w.heap.size w wr := (((Below.refl _ _).alloc (Nat.le_refl _) _).alloc (by simp) _).trans (hb.mono (by omega))
    have z0 : wr.cell? ⟨w.heap.size, 0, none⟩ = some (.slice a0 n c0) := (hb.cell (p := ⟨w.heap.size, 0, none⟩) (by show w.heap.size < _; omega)).trans (by simp)
    have z1 : wr.cell? ⟨w.heap.size + 1, 0, none⟩ = some (.slice a1 m c1) := (hb.cell (p := ⟨w.heap.size + 1, 0, none⟩) (by show w.heap.size + 1 < _; omega)).trans (by simp)
    by_cases hin : i < n
    · by_cases hjm : j < m
      · obtain ⟨x1, y1, rfl, s1, m1⟩ := hV.cell hin
        obtain ⟨x2, y2, rfl, s2, m2⟩ := hU.cell hjm
        obtain ⟨p0, p1⟩ := m1 i hin
        obtain ⟨q0, q1⟩ := m2 j hjm
        have hin' : i < V.length := by rw [HN.out]; exact hin
        have hjm' : j < U.length := by rw [HM.out]; exact hjm
        have HA := fun h => HS.ahead hin' hjm' h
        have HB := fun h => HS.behind hin' hjm' h
        have HC := fun h => HS.both hin' hjm' h
        have h20 : ∀ w, Calls Try.prog 20 #[.string (V.getD i Vec.e0).s, .string (U.getD j Vec.e0).s] w fun e w' => e = .returned (.int .i64 (Vec.cmp (V.getD i Vec.e0) (U.getD j Vec.e0))) ∧ w' = w := fun w => compare_any _ _ w
        generalize Vec.cmp (V.getD i Vec.e0) (U.getD j Vec.e0) = o at *
        generalize V.getD i Vec.e0 = ev at *
        generalize U.getD j Vec.e0 = eu at *
        obtain ⟨sv, cv⟩ := ev
        obtain ⟨su, cu⟩ := eu
        simp only at p0 p1 q0 q1 HC h20
        have H20 : Hid (∀ w, Calls Try.prog 20 #[.string sv, .string su] w fun e w' => e = .returned (.int .i64 o) ∧ w' = w) := h20
        have f0 := (RW.cell (p := ⟨x1, y1 + i * 2, none⟩) s1).trans p0
        have f1 := (RW.cell (p := ⟨x1, y1 + i * 2 + 1, none⟩) s1).trans p1
        have g0 := (RW.cell (p := ⟨x2, y2 + j * 2, none⟩) s2).trans q0
        have g1 := (RW.cell (p := ⟨x2, y2 + j * 2 + 1, none⟩) s2).trans q1
        have hi1 : (i : Int) < (n : Int) := by omega
        have hj1 : (j : Int) < (m : Int) := by omega
        clear m1 m2 p0 p1 q0 q1 hV hU h20 hin' hjm' HS
        by_cases o1 : o < 0
        · have HX := HA o1
          clear HA HB HC
          go_wp2_with fail
          go_quiet ((go_at_call 20; exact Calls.quiet_of_same (H20.out _)))
          go_wp2
          go_roundg f
          case measure => omega
          case rel => exact ⟨b, true, i + 1, j, rfl, rfl, by go_num, rfl, by omega, by omega, HX, below_drewN hb _⟩
        · by_cases o2 : 0 < o
          · have HX := HB o2
            clear HA HB HC
            go_wp2_with fail
            go_quiet ((go_at_call 20; exact Calls.quiet_of_same (H20.out _)))
            go_wp2
            go_roundg f
            case measure => omega
            case rel => exact ⟨true, a, i, j + 1, rfl, rfl, rfl, by go_num, by omega, by omega, HX, below_drewN hb _⟩
          · have HX := HC (by omega)
            clear HA HB HC
            cases b <;> cases a
            all_goals
              go_wp2_with fail
              go_quiet ((go_at_call 20; exact Calls.quiet_of_same (H20.out _)))
              go_wp2_with fail
              go_quiet (fail)
              go_wp2_with fail
              go_quiet (fail)
              go_wp2
              go_roundg f
              case measure => omega
              case rel => exact ⟨_, _, i + 1, j + 1, rfl, rfl, by go_num, by go_num, by omega, by omega, HX, below_drewN hb _⟩
      · have HX := HS.ahead_end (by rw [HN.out]; exact hin) (by rw [HM.out]; omega)
        clear HS hV hU
        go_wp2
        go_roundg f
        case measure => omega
        case rel => exact ⟨b, true, i + 1, j, rfl, rfl, by go_num, rfl, by omega, by omega, HX, hb⟩
    · by_cases hjm : j < m
      · have HX := HS.behind_end (by rw [HN.out]; omega) (by rw [HM.out]; exact hjm)
        clear HS hV hU
        go_wp2
        go_roundg f
        case measure => omega
        case rel => exact ⟨true, a, i, j + 1, rfl, rfl, rfl, by go_num, by omega, by omega, HX, hb⟩
      · have HX := HS.done (by rw [HN.out]; omega) (by rw [HM.out]; omega)
        have HX' : Hid (R = (b, a)) := HX
        clear HS hV hU HX
        cases b <;> cases a
        all_goals
          go_wp2
          go_ret
          exact ⟨by rw [HX'.out]; rfl, RW⟩
end Go.Proofs.Qxb6603280a
