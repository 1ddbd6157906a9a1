/-
  THE ROW's STEP and THE CARD of seat b6604770aF: the slice opened, ErrLength's cell as 'laid' gives it, the walk, the slice read again.
-/
import Derived.Test.Qxb6604770aFmtCards
import Derived.Test.Qxb6604770aFmtTie
import Derived.Test.Qxb6604770aFmtW2
import Derived.ProofKit
import Derived.OpenShut
import Derived.ChangeOld
import Derived.Below
import Derived.JoinedOf
import Derived.RowKitTokens
import Derived.Stop.JoinedAt
import Derived.Stop.Texts
import Derived.Stop.JoinedTold
import Derived.Stop.ErrReads
import Derived.Stop.LaidErr
import Derived.SevenTiedAt
namespace Go.Proofs.Qxb6604770aFmt
open Go.ChangeShapes Go.WideShapes Go.ChangeAt Go.RowKit Go.Kit Zz
open Go.Extern.Stop Go.Stop Go.Extern

theorem own : ownKnob Tryf.prog.godebug = none := by kernel_rfl
theorem laidOut : laidOutB Tryf.pinned.checked.prog = true := by kernel_rfl
theorem stops : Tryf.pinned.checked.prog.stops = ["fmt.errorf"] := by kernel_rfl
theorem stopKnobs : Tryf.pinned.checked.prog.stopKnobs = [] := by kernel_rfl
theorem quiet (os : Os) : Stop.quiet Tryf.pinned.checked.prog os := by
  intro k hk
  rw [stopKnobs] at hk
  cases hk
theorem gEType : (Tryf.prog.globals[0]?).map (·.type) = some 25 := by kernel_rfl
theorem cells41 : Tryf.prog.cellsOf 41 = 1 := by kernel_rfl
theorem cells9 : Tryf.prog.cellsOf 9 = 1 := by kernel_rfl
theorem cells5 : Tryf.prog.cellsOf 5 = 1 := by kernel_rfl
/-- The one row of a name of the form (sign ++ nm): the sign is the law's own. -/
theorem row_of {P : Program} {nm s t : String} {tp : TypeId}
    (law : ((List.range P.types.size).all fun u => P.typeName? 3 u != some (t ++ nm) || u == tp) = true → ∀ u, P.typeName? 3 u = some (t ++ nm) → u = tp)
    (e : t ++ nm = s) (hrows : ((List.range P.types.size).all fun u => P.typeName? 3 u != some s || u == tp) = true) : ∀ u, P.typeName? 3 u = some s → u = tp := by
  subst e
  exact law hrows

abbrev lenS : ByteArray := { data := #[101, 110, 99, 111, 100, 105, 110, 103, 47, 104, 101, 120, 58, 32, 111, 100, 100, 32, 108, 101, 110, 103, 116, 104, 32, 104, 101, 120, 32, 115, 116, 114, 105, 110, 103] }

section
variable {H : Type} {enc : TypeId × Value → H} {W : World}

theorem vrow_of_cells {a : Addr} {len : Nat} {V : Nat → Value} (h : ∀ i, i < len → W.cell? (a.add i) = some (V i)) : VRow W (some a) len V := by
  by_cases h0 : len = 0
  · exact .inl h0
  · obtain ⟨b, off, spot⟩ := a
    have hspot : spot = none := by
      have := World.cell?_spot (h 0 (by omega))
      simpa [Addr.add] using this
    subst hspot
    refine .inr ⟨b, off, rfl, ?_, fun i hi => ?_⟩
    · have := World.block_lt_of_cell? _ _ (h 0 (by omega))
      simpa [Addr.add] using this
    · have := h i hi
      rw [add_plain] at this
      exact this

theorem bytes_open {a : Option Addr} {len cap fuel : Nat} {x : DataW H × List MemPlace} (h : DataW.trod enc Tryf.prog W 0 (fun _ => true) true fuel 23 (Value.slice a len cap).cells.toList = some x) :
    ∃ l : List UInt8, l.length = len ∧ len ≤ maxLen ∧ (a = none → len = 0 ∧ cap = 0) ∧ VRow W a len (fun i => .int .u8 ((l.getD i 0).toNat : Int)) := by
  rcases open_ints Tryf.underlying23 Tryf.underlying5 cells5 h with ⟨hcs, _⟩ | ⟨x, n, c, zs, hcs, _, hl, hm, hz, _, hcell, hwz⟩
  · simp [Value.cells] at hcs
    obtain ⟨rfl, rfl, rfl⟩ := hcs
    exact ⟨[], rfl, Nat.zero_le _, fun _ => ⟨rfl, rfl⟩, .inl rfl⟩
  · simp [Value.cells] at hcs
    obtain ⟨rfl, rfl, rfl⟩ := hcs
    simp only [if_true] at hz
    refine ⟨(List.range len).map (fun i => UInt8.ofNat (zs.getD i 0).toNat), by simp, by omega, fun h => (by cases h), vrow_of_cells fun i hi => ?_⟩
    have hi' : i < zs.length := by omega
    have e : zs.getD i 0 = zs[i] := by simp [hi']
    have hw := hwz zs[i] (List.getElem_mem _)
    simp [Lit.wf, IntKind.min, IntKind.max, IntKind.signed, IntKind.bits] at hw
    rw [hcell i (by omega)]
    congr 2
    simp only [List.getD_eq_getElem?_getD, List.getElem?_map, List.getElem?_range hi, Option.map_some, Option.getD_some]
    rw [← List.getD_eq_getElem?_getD, e]
    have : (UInt8.ofNat (zs[i]).toNat).toNat = (zs[i]).toNat := by simp; omega
    omega
end

theorem laid_met (os : Os) (args : Array Value) : laidMet Tryf.prog Rows.fnParseHexInvertsLowerHexRow.laid (({ World.holding Tryf.prog os ⟨#[.cells #[.string lenS] 41], #[], []⟩ with heap := (World.holding Tryf.prog os ⟨#[.cells #[.string lenS] 41], #[], []⟩).heap.modify 0 fun
      | .cells _ t frozen => .cells #[.iface 39 (.pointer (some ⟨(World.holding Tryf.prog default ⟨#[], #[], []⟩).heap.size, 0, none⟩))] t frozen
      | o => o } : World).forCall (fun _ _ => 0) ⟨#[], args, []⟩).memory :=
  laidMet_of_run (ps := [.cell 0 0, .cell (World.holding Tryf.prog default ⟨#[], #[], []⟩).heap.size 0]) 8 (by kernel_rfl) (by kernel_rfl) (by kernel_rfl)

set_option maxRecDepth 100000 in
theorem lifted (os : Os) (started : os.Started) (H : Type) (enc : TypeId × Value → H) :
    ReturnsInTold none {} Tryf.checked os 4 .any Input.okWide ((OpenSpec.ofChange Rows.fnParseHexInvertsLowerHexSpec).preRow enc Tryf.prog Tryf.f4 [] false Rows.fnParseHexInvertsLowerHexRow.laid) (fun F => ((OpenSpec.ofChange Rows.fnParseHexInvertsLowerHexSpec).at F.told).post enc Tryf.prog Tryf.f4 false true false false) (aloneAtReturn Tryf.prog) nothingAlways := by
  refine returnsInTold_of_row (C := Tryf.checked) (s := OpenSpec.ofChange Rows.fnParseHexInvertsLowerHexSpec) (by kernel_rfl) own started (by kernel_rfl) Tryf.func4
    (OpenSpec.witness_stopped_at (enc := enc) (C := Tryf.checked) false ({ World.holding Tryf.prog os ⟨#[.cells #[.string lenS] 41], #[], []⟩ with heap := (World.holding Tryf.prog os ⟨#[.cells #[.string lenS] 41], #[], []⟩).heap.modify 0 fun
      | .cells _ t frozen => .cells #[.iface 39 (.pointer (some ⟨(World.holding Tryf.prog default ⟨#[], #[], []⟩).heap.size, 0, none⟩))] t frozen
      | o => o } : World) #[.slice none 0 0] rfl (by kernel_rfl) (by kernel_rfl) (by kernel_rfl)
      (OpenSpec.preRow_of_B rfl 8 (by kernel_rfl) (by kernel_rfl) (laid_met os _))) ?_
  intro F W base args ds gs before _ hF hval0 hW _ _ _ hL _
  have hval : ∀ (j : Nat) t v, Tryf.f4.params[j]? = some t → args[j]? = some v → Value.okWide Tryf.prog W .any base t v := hval0
  have hW' := hW
  obtain ⟨p, q, hA0, hV, rfl, hfz, hnd⟩ := hW
  have hA : DataW.TrodAll enc Tryf.prog W 0 (fun _ => true) true Tryf.f4.params.toList args.toList ds p := hA0
  rw [Tryf.params4] at hA hval
  obtain ⟨v0, d0, rfl, rfl, h0⟩ := trodAll_one hA
  obtain ⟨rfl, rfl⟩ := trodVars_none hV
  obtain ⟨a0, s0, hv0, hc0, hs0, hz0⟩ := laid_sentinel (g := 0) hL (by kernel_rfl) gEType Tryf.underlying25 (tp := 39)
    (row_of (fun h => typeName_ptr_named (nm := "errors.errorString") h (by kernel_rfl) (by decide)) (by decide) (by kernel_rfl)) Tryf.underlying39 Tryf.underlying41 rfl rfl Tryf.underlying9 cells41 cells9
  have hg0 : W.cell? ⟨0, 0, none⟩ = some (.iface 39 (.pointer (some a0))) := by simpa using World.var?_cell (g := 0) (by kernel_rfl) hv0 0
  obtain ⟨a, len, cap, rfl⟩ := okWide_slice Tryf.underlying23 (hval 0 23 v0 rfl rfl)
  have k0 := h0
  have lt0 : ∀ x ∈ p, x.block < W.heap.size := by obtain ⟨m, hm⟩ := k0; exact DataW.trod_lt m _ _ _ hm
  obtain ⟨l, hl, m0, n0, e0⟩ : ∃ l : List UInt8, l.length = len ∧ len ≤ maxLen ∧ (a = none → len = 0 ∧ cap = 0) ∧ VRow W a len (fun i => .int .u8 ((l.getD i 0).toNat : Int)) := by
    obtain ⟨fuel, hf⟩ := h0
    exact bytes_open hf
  clear hA0 hval0
  refine (law_any a len cap l W _ m0 hl n0 e0 hg0).mono fun e W' ⟨he, bel⟩ => ?_
  subst he
  exact ⟨_, rfl, _, _, _, [], _, [], hW', trodAll_mk1 (shut_bool Tryf.underlying4 _), trodAll_mk1 (Below.trod laidOut (by kernel_rfl) (of_decide_eq_true (by kernel_rfl)) k0 bel lt0), rfl, bel.frame _, fun h => by cases h⟩

/-- ████ THE STATEMENT ████ -/
theorem parse_hex_law : Rows.FnParseHexInvertsLowerHexToldSaid :=
  Claim7.holds_of_told_tied_any_at .later 4 Tryf.f4 "fmt.errorf" [] [] _ _ _ _ _ (by kernel_rfl) rfl rfl rfl laidOut (by kernel_rfl) rfl ⟨rfl, rfl, rfl, rfl, rfl, rfl, rfl⟩ rfl rfl (by kernel_rfl) (by kernel_rfl) Tryf.func4 (by kernel_rfl)
    (of_decide_eq_true (by kernel_rfl)) (of_decide_eq_true (by kernel_rfl)) stops.symm rfl stopKnobs.symm (by kernel_rfl)
    (by kernel_rfl) (by kernel_rfl) (by kernel_rfl) (by kernel_rfl) (by kernel_rfl) (by kernel_rfl) (by kernel_rfl) (by kernel_rfl) (by kernel_rfl) rfl (by kernel_rfl) rfl rfl
    rfl rfl
    rfl (by kernel_rfl) (by kernel_rfl) (by kernel_rfl) (by decide) (by kernel_rfl) fnParseHexInvertsLowerHex_row_tie
    (OpenClaim.moreEntering_of (by kernel_rfl) (by kernel_rfl) (by kernel_rfl) (by kernel_rfl) (by kernel_rfl) (by kernel_rfl) (by kernel_rfl) (by kernel_rfl) (by kernel_rfl) (by kernel_rfl))
    ⟨_, WideRow.started_initial, quiet _⟩
    (fun os started _ H enc _ => lifted os started H enc)
end Go.Proofs.Qxb6604770aFmt
