/-
  THE WALK of 'zzValidDiff' (15): it answers some bool; where it answers true the edits are a chain (what lies between them it compares too: that is not used).
-/
import Derived.Test.Qxb6602961aW1
namespace Go.Proofs.Qxb6602961a
open Go.RowKit Zz

def RetValid (w : World) (L : List Slid.Ed) (la lb : Nat) (e : Ending) (w' : World) : Prop := ∃ b, e = .returned (.bool b) ∧ (b = true → Slid.Chain la lb 0 0 L) ∧ Below w.heap.size w w'

theorem ret_false {w w' : World} {L : List Slid.Ed} {la lb : Nat} (h : Below w.heap.size w w') : RetValid w L la lb (.returned (.bool false)) w' := ⟨false, rfl, fun h => (by cases h), h⟩

theorem chain_step {L : List Slid.Ed} {k : Nat} {la lb : Nat} {pa pb o d n i : Int} (hk : k < L.length) (hE : L.getD k ⟨0, 0, 0, 0⟩ = ⟨o, d, n, i⟩)
    (h : Slid.Chain la lb pa pb (L.drop k) → Slid.Chain la lb 0 0 L) (p0 : 0 ≤ pa) (p1 : 0 ≤ pb) (h1 : pa ≤ o) (h3 : pb ≤ n) (h5 : 0 ≤ d) (h6 : 0 ≤ i) (h7 : d ≤ la - o) (h8 : i ≤ lb - n) (h9 : o - pa = n - pb) :
    Slid.Chain la lb (o + d) (n + i) (L.drop (k + 1)) → Slid.Chain la lb 0 0 L := by
  intro hc
  apply h
  have e : L[k] = ⟨o, d, n, i⟩ := by rw [← hE]; simp [hk]
  rw [List.drop_eq_getElem_cons hk, e]
  simp only [Slid.Chain]
  exact ⟨p0, p1, h1, h3, h5, h6, by omega, by omega, h9, hc⟩

set_option maxRecDepth 10000 in
set_option maxHeartbeats 1000000 in
theorem valid_any (a0 a1 a2 : Option Addr) (c0 c1 c2 la lb : Nat) (L : List Slid.Ed) (A B : Nat → Int) (w : World) (hn : L.length ≤ 8192) (hla : la ≤ 32768) (hlb : lb ≤ 32768)
    (hE : ERow w a0 L.length (fun i => L.getD i ⟨0, 0, 0, 0⟩)) (hA : VRow w a1 la (fun i => .int .i64 (A i))) (hB : VRow w a2 lb (fun i => .int .i64 (B i))) :
    Calls Try.prog 15 #[.slice a0 L.length c0, .slice a1 la c1, .slice a2 lb c2] w fun e w' => RetValid w L la lb e w' := by
  obtain ⟨N, hN⟩ : ∃ N, L.length = N := ⟨_, rfl⟩
  rw [hN] at hn hE ⊢
  have HN : Hid (L.length = N) := hN
  clear hN
  go_enter Try.func15, Try.ntmps15
  go_wp2
  go_loopw [7, 8, 9] (fun x y z wr => ∃ (k : Nat) (pa pb : Int), k ≤ N ∧ z = .int .i64 k ∧ x = .int .i64 pa ∧ y = .int .i64 pb ∧ 0 ≤ pa ∧ pa ≤ la ∧ 0 ≤ pb ∧ pb ≤ lb ∧ Hid (Slid.Chain la lb pa pb (L.drop k) → Slid.Chain la lb 0 0 L) ∧ Below w.heap.size w wr) (fun _ _ z _ => N - (intOf z).toNat)
  case atStart => exact ⟨0, 0, 0, Nat.zero_le _, rfl, rfl, rfl, by omega, by omega, by omega, by omega, fun h => h, Below.refl _ _⟩
  case round =>
    obtain ⟨k, pa, pb, hk, rfl, rfl, rfl, p0, p1, p2, p3, HC, hb⟩ := hrel
    obtain ⟨wo, rfl⟩ : ∃ x, x = wr := ⟨_, rfl⟩
    obtain ⟨p, rfl⟩ := Int.eq_ofNat_of_zero_le p0
    obtain ⟨q, rfl⟩ := Int.eq_ofNat_of_zero_le p2
    by_cases hlt : k < N
    · obtain ⟨b, off, rfl, hbs, hcell⟩ := hE.cell hlt
      obtain ⟨q0, q1, q2, q3⟩ := hcell k hlt
      obtain ⟨⟨o, d, n, i⟩, he⟩ : ∃ e, L.getD k ⟨0, 0, 0, 0⟩ = e := ⟨_, rfl⟩
      rw [he] at q0 q1 q2 q3
      have HE : Hid (L.getD k ⟨0, 0, 0, 0⟩ = ⟨o, d, n, i⟩) := he
      have g0 : wo.cell? ⟨b, off + k * 4, none⟩ = some (.int .i64 o) := (hb.cell (p := ⟨b, off + k * 4, none⟩) hbs).trans q0
      have g1 : wo.cell? ⟨b, off + k * 4 + 1, none⟩ = some (.int .i64 d) := (hb.cell (p := ⟨b, off + k * 4 + 1, none⟩) hbs).trans q1
      have g2 : wo.cell? ⟨b, off + k * 4 + 2, none⟩ = some (.int .i64 n) := (hb.cell (p := ⟨b, off + k * 4 + 2, none⟩) hbs).trans q2
      have g3 : wo.cell? ⟨b, off + k * 4 + 3, none⟩ = some (.int .i64 i) := (hb.cell (p := ⟨b, off + k * 4 + 3, none⟩) hbs).trans q3
      clear he q0 q1 q2 q3 hcell hbs
      have R := hb.alloc hb.size (.cells #[.int .i64 o, .int .i64 d, .int .i64 n, .int .i64 i] 39)
      by_cases t1 : o < p
      · go_wp2
        go_ret
        exact ret_false R
      by_cases t2 : (la : Int) < o
      · go_wp2
        go_ret
        exact ret_false R
      by_cases t3 : n < q
      · go_wp2
        go_ret
        exact ret_false R
      by_cases t4 : (lb : Int) < n
      · go_wp2
        go_ret
        exact ret_false R
      by_cases t5 : d < 0
      · go_wp2
        go_ret
        exact ret_false R
      by_cases t6 : i < 0
      · go_wp2
        go_ret
        exact ret_false R
      by_cases t7 : (la : Int) - o < d
      · go_wp2
        go_ret
        exact ret_false R
      by_cases t8 : (lb : Int) - n < i
      · go_wp2
        go_ret
        exact ret_false R
      by_cases t9 : o - p = n - q
      · have hle : p ≤ la := by omega
        go_wp2
        go_loopw [11] (fun x wr => ∃ t : Nat, x = .int .i64 t ∧ (t : Int) ≤ o - p ∧ Below (wo.heap.size + 1) (wo.alloc (.cells #[.int .i64 o, .int .i64 d, .int .i64 n, .int .i64 i] 39)) wr) (fun x _ => (o - p).toNat - (intOf x).toNat)
        case atStart => exact ⟨0, rfl, by omega, Below.refl _ _⟩
        case round =>
          obtain ⟨t, rfl, hto, hbi⟩ := hrel
          have z0 : wr.cell? ⟨wo.heap.size, 0, none⟩ = some (.int .i64 o) := (hbi.cell (p := ⟨wo.heap.size, 0, none⟩) (by simp)).trans (by simp)
          have z1 : wr.cell? ⟨wo.heap.size, 1, none⟩ = some (.int .i64 d) := (hbi.cell (p := ⟨wo.heap.size, 1, none⟩) (by simp)).trans (by simp)
          have z2 : wr.cell? ⟨wo.heap.size, 2, none⟩ = some (.int .i64 n) := (hbi.cell (p := ⟨wo.heap.size, 2, none⟩) (by simp)).trans (by simp)
          have z3 : wr.cell? ⟨wo.heap.size, 3, none⟩ = some (.int .i64 i) := (hbi.cell (p := ⟨wo.heap.size, 3, none⟩) (by simp)).trans (by simp)
          have RW := R.trans (hbi.mono (by have := hb.size; omega))
          by_cases hti : (t : Int) < o - p
          · obtain ⟨x1, y1, rfl, s1, m1⟩ := hA.cell (k := p + t) (by omega)
            obtain ⟨x2, y2, rfl, s2, m2⟩ := hB.cell (k := q + t) (by omega)
            have m3 : wr.cell? ⟨x1, y1 + (p + t), none⟩ = some (.int .i64 (A (p + t))) := (RW.cell (p := ⟨x1, y1 + (p + t), none⟩) s1).trans (m1 _ (by omega))
            have m4 : wr.cell? ⟨x2, y2 + (q + t), none⟩ = some (.int .i64 (B (q + t))) := (RW.cell (p := ⟨x2, y2 + (q + t), none⟩) s2).trans (m2 _ (by omega))
            have j1 : (p : Int) + t < la := by omega
            have j2 : (q : Int) + t < lb := by omega
            clear m1 m2
            by_cases hne : A (p + t) = B (q + t)
            · have hne' : (A (p + t) != B (q + t)) = false := by simp [hne]
              generalize A (p + t) = X at *
              generalize B (q + t) = Y at *
              clear hne
              go_wp2_with fail
              go_quiet (fail)
              go_wp2
              go_roundw
              case rel => exact ⟨t + 1, by go_num, by omega, below_drewN hbi _⟩
              case measure => simp [intOf]; omega
            · have hne' : (A (p + t) != B (q + t)) = true := by simp [hne]
              generalize A (p + t) = X at *
              generalize B (q + t) = Y at *
              clear hne
              go_wp2_with fail
              go_quiet (fail)
              go_wp2
              go_ret
              exact ret_false (below_drewN RW _)
          · have HS : Hid (Slid.Chain la lb (o + d) (n + i) (L.drop (k + 1)) → Slid.Chain la lb 0 0 L) := chain_step (by rw [HN.out]; exact hlt) HE.out HC.out (by omega) (by omega) (by omega) (by omega) (by omega) (by omega) (by omega) (by omega) t9
            clear t9
            go_wp2
            go_roundw
            case rel => exact ⟨k + 1, o + d, n + i, by omega, by go_num, rfl, rfl, by omega, by omega, by omega, by omega, HS, RW⟩
            case measure => simp [intOf]; omega
      · go_wp2
        go_ret
        exact ret_false R
    · have hke : k = N := by omega
      have HK : Hid ((la : Int) - p = lb - q → Slid.Chain la lb 0 0 L) := fun h => HC.out (by
        rw [List.drop_eq_nil_of_le (by have := HN.out; omega)]
        exact ⟨h, by omega, by omega, by omega, by omega⟩)
      clear hke
      by_cases t9 : (la : Int) - p = lb - q
      · have HF : Hid (Slid.Chain la lb 0 0 L) := HK.out t9
        go_wp2
        go_loopw [12] (fun x wr => ∃ t : Nat, x = .int .i64 t ∧ (t : Int) ≤ la - p ∧ Below w.heap.size w wr) (fun x _ => ((la : Int) - p).toNat - (intOf x).toNat)
        case atStart => exact ⟨0, rfl, by omega, hb⟩
        case round =>
          obtain ⟨t, rfl, hto, RW⟩ := hrel
          by_cases hti : (t : Int) < la - p
          · obtain ⟨x1, y1, rfl, s1, m1⟩ := hA.cell (k := p + t) (by omega)
            obtain ⟨x2, y2, rfl, s2, m2⟩ := hB.cell (k := q + t) (by omega)
            have m3 : wr.cell? ⟨x1, y1 + (p + t), none⟩ = some (.int .i64 (A (p + t))) := (RW.cell (p := ⟨x1, y1 + (p + t), none⟩) s1).trans (m1 _ (by omega))
            have m4 : wr.cell? ⟨x2, y2 + (q + t), none⟩ = some (.int .i64 (B (q + t))) := (RW.cell (p := ⟨x2, y2 + (q + t), none⟩) s2).trans (m2 _ (by omega))
            have j1 : (p : Int) + t < la := by omega
            have j2 : (q : Int) + t < lb := by omega
            clear m1 m2
            by_cases hne : A (p + t) = B (q + t)
            · have hne' : (A (p + t) != B (q + t)) = false := by simp [hne]
              generalize A (p + t) = X at *
              generalize B (q + t) = Y at *
              clear hne
              go_wp2_with fail
              go_quiet (fail)
              go_wp2
              go_roundw
              case rel => exact ⟨t + 1, by go_num, by omega, below_drewN RW _⟩
              case measure => simp [intOf]; omega
            · have hne' : (A (p + t) != B (q + t)) = true := by simp [hne]
              generalize A (p + t) = X at *
              generalize B (q + t) = Y at *
              clear hne
              go_wp2_with fail
              go_quiet (fail)
              go_wp2
              go_ret
              exact ret_false (below_drewN RW _)
          · go_wp2
            go_ret
            exact ⟨true, rfl, fun _ => HF.out, RW⟩
      · go_wp2
        go_ret
        exact ret_false hb
end Go.Proofs.Qxb6602961a
