/-
  The first law's card: 'FnNotJSONWrapsEveryOtherErrorOnce', fmt's text told, its two sentinels tied to the program's text.
-/
import Derived.Test.Qxb6625454aFmtRows
import Derived.Test.Qxb6625454aFmtTie
import Derived.Test.Qxb6625454aFmtCards
import Derived.Test.Qxb6625454aFmtWalkC
import Derived.ProofKit
import Derived.ShutString
import Derived.SevenTiedAt
import Derived.Stop.JoinedAt
import Derived.Stop.JoinedTold
import Derived.Stop.Texts
import Derived.Stop.LaidErr
import Derived.Stop.LaidTwo
namespace Go.Proofs.Qxb6625454aFmt
open Go.ChangeShapes Go.WideShapes Go.ChangeAt Go.RowKit Go.Kit
open Go.ChangeMaps (open_string shut_string)
open Go.Extern.Stop Go.Stop Go.Extern

theorem own : ownKnob Tryf.prog.godebug = none := by kernel_rfl
theorem laidOut : laidOutB Tryf.pinned.checked.prog = true := by kernel_rfl
theorem stopsAre : Tryf.pinned.checked.prog.stops = ["fmt.errorf"] := by kernel_rfl
theorem stopKnobsAre : Tryf.pinned.checked.prog.stopKnobs = [] := by kernel_rfl
theorem quiet (os : Os) : Stop.quiet Tryf.pinned.checked.prog os := by
  intro k hk
  rw [stopKnobsAre] at hk
  cases hk
theorem gE : Tryf.prog.globalNamed "io.EOF" = some 0 := by kernel_rfl
theorem gU : Tryf.prog.globalNamed "io.ErrUnexpectedEOF" = some 1 := by kernel_rfl
theorem gEType : (Tryf.prog.globals[0]?).map (·.type) = some 28 := by kernel_rfl
theorem gUType : (Tryf.prog.globals[1]?).map (·.type) = some 28 := by kernel_rfl
theorem cells34 : Tryf.prog.cellsOf 34 = 1 := by kernel_rfl
theorem cells9 : Tryf.prog.cellsOf 9 = 1 := by kernel_rfl
/-- The name of the sentinels' type, as the given row has it. -/
def starName : String := match (Rows.laid_io_EOF : DataW Unit) with
  | .iface nm _ => nm
  | _ => ""
theorem starRows (p : String) (hp : p ++ "errors.errorString" = starName) : ((List.range Tryf.prog.types.size).all fun u => Tryf.prog.typeName? 3 u != some (p ++ "errors.errorString") || u == 32) = true := by
  rw [hp]; kernel_rfl
theorem row32 (u : TypeId) (h : Tryf.prog.typeName? 3 u = some starName) : u = 32 :=
  typeName_ptr_named (nm := "errors.errorString") (starRows _ (by decide)) (by kernel_rfl) (by decide) u (h.trans (congrArg some (by decide)))

/-- A start that fits: the two sentinels laid. -/
def lowOf (P : Program) : Nat := (World.holding P default ⟨#[], #[], []⟩).heap.size
def laidWorldOf (P : Program) (os : Os) : World :=
  let w0 := World.holding P os ⟨#[.cells #[.string { data := #[69, 79, 70] }] 34, .cells #[.string { data := #[117, 110, 101, 120, 112, 101, 99, 116, 101, 100, 32, 69, 79, 70] }] 34], #[], []⟩
  { w0 with heap := (w0.heap.modify 0 fun
      | .cells _ t frozen => .cells #[.iface 32 (.pointer (some ⟨lowOf P, 0, none⟩))] t frozen
      | o => o).modify 1 fun
      | .cells _ t frozen => .cells #[.iface 32 (.pointer (some ⟨lowOf P + 1, 0, none⟩))] t frozen
      | o => o }
theorem laid_met (os : Os) (args : Array Value) : laidMet Tryf.prog [("io.EOF", Rows.laid_io_EOF), ("io.ErrUnexpectedEOF", Rows.laid_io_ErrUnexpectedEOF)] ((laidWorldOf Tryf.prog os).forCall (fun _ _ => 0) ⟨#[], args, []⟩).memory :=
  laidMet_of_run (ps := [.cell 0 0, .cell (lowOf Tryf.prog) 0, .cell 1 0, .cell (lowOf Tryf.prog + 1) 0]) 8 (by kernel_rfl) (by kernel_rfl) (by kernel_rfl)

set_option maxRecDepth 100000 in
theorem wraps_lifted (os : Os) (started : os.Started) (H : Type) (enc : TypeId × Value → H) :
    ReturnsInTold none {} Tryf.checked os 3 .any Input.okWide ((OpenSpec.ofChange Rows.fnNotJSONWrapsEveryOtherErrorOnceSpec).preRow enc Tryf.prog Tryf.f3 [] false Rows.fnNotJSONWrapsEveryOtherErrorOnceRow.laid) (fun F => ((OpenSpec.ofChange Rows.fnNotJSONWrapsEveryOtherErrorOnceSpec).at F).post enc Tryf.prog Tryf.f3 false true false false) (aloneAtReturn Tryf.prog) nothingAlways := by
  refine returnsInTold_of_row (C := Tryf.checked) (s := OpenSpec.ofChange Rows.fnNotJSONWrapsEveryOtherErrorOnceSpec) (by kernel_rfl) own started (by kernel_rfl) Tryf.func3
    (OpenSpec.witness_stopped_at (enc := enc) (C := Tryf.checked) false (laidWorldOf Tryf.prog os) #[.string ByteArray.empty] rfl (by kernel_rfl) (by kernel_rfl) (by kernel_rfl)
      (OpenSpec.preRow_of_B rfl 8 (by kernel_rfl) (by kernel_rfl) (laid_met os _))) ?_
  intro F W base args ds gs before _ hF hval0 hW _ _ _ hL _
  have hval : ∀ (j : Nat) t v, Tryf.f3.params[j]? = some t → args[j]? = some v → Value.okWide Tryf.prog W .any base t v := hval0
  have hW' := hW
  obtain ⟨p, q, hA0, hV, rfl, hfz, hnd⟩ := hW
  have hA : DataW.TrodAll enc Tryf.prog W 0 (fun _ => true) true Tryf.f3.params.toList args.toList ds p := hA0
  rw [Tryf.params3] at hA hval
  obtain ⟨v0, d0, rfl, rfl, h0⟩ := trodAll_one hA
  obtain ⟨rfl, rfl⟩ := trodVars_none hV
  obtain ⟨s, rfl, rfl, rfl, ws⟩ := open_string Tryf.underlying9 (hval 0 9 v0 rfl rfl) h0
  obtain ⟨a0, a1, s0, s1, c0, c1, t0, t1, hv0, hv1, hc0, hs0, hz0, hc1, hs1, hz1, hne, hb0, hb1⟩ := laid_sentinels2 hL gE gEType gU gUType Tryf.underlying28 row32 Tryf.underlying32 Tryf.underlying34 rfl rfl Tryf.underlying9 cells34 cells9
  clear hA0 hval0
  simp only [List.append_nil] at hW'
  have hg0 : W.cell? ⟨0, 0, none⟩ = some (.iface 32 (.pointer (some a0))) := by simpa using World.var?_cell gE hv0 0
  have hg1 : W.cell? ⟨1, 0, none⟩ = some (.iface 32 (.pointer (some a1))) := by simpa using World.var?_cell gU hv1 0
  have hcall : Calls Tryf.prog 3 #[.string s] W fun e w' => e = .returned (.bool true) ∧ Below W.heap.size W w' := by
    by_cases hlen : (s.size : Int) ≤ 1048576
    · exact law3_short F.told a0 a1 s c0 c1 t0 t1 W hF hg0 hg1 hb0 hb1 hlen
    · exact (law3_long s W (by omega)).mono fun e w' ⟨he, hw⟩ => ⟨he, by subst hw; exact Below.refl _ _⟩
  refine hcall.mono fun e W' ⟨he, hb⟩ => ?_
  subst he
  refine ⟨_, rfl, _, _, _, [], [], [], hW', ?_, ?_, ?_, hb.frame _, fun h => by cases h⟩
  · exact trodAll_mk1 (shut_bool Tryf.underlying4 true)
  · exact trodAll_mk1 (shut_string Tryf.underlying9 ws)
  · exact rfl

theorem wraps_holds : Rows.FnNotJSONWrapsEveryOtherErrorOnceToldSaid :=
  Claim7.holds_of_told_tied_any_at .later 3 Tryf.f3 "fmt.errorf" [] [] _ _ _ _ _ (by kernel_rfl) rfl rfl rfl laidOut (by kernel_rfl) rfl ⟨rfl, rfl, rfl, rfl, rfl, rfl, rfl⟩ rfl rfl (by kernel_rfl) (by kernel_rfl) Tryf.func3 (by kernel_rfl)
    (of_decide_eq_true (by kernel_rfl)) (of_decide_eq_true (by kernel_rfl)) stopsAre.symm rfl stopKnobsAre.symm (by kernel_rfl)
    (by kernel_rfl) (by kernel_rfl) (by kernel_rfl) (by kernel_rfl) (by kernel_rfl) (by kernel_rfl) (by kernel_rfl) (by kernel_rfl) (by kernel_rfl) rfl (by kernel_rfl) rfl rfl
    rfl rfl
    rfl (by kernel_rfl) (by kernel_rfl) (by kernel_rfl) (by decide) (by kernel_rfl) fnNotJSONWrapsEveryOtherErrorOnce_row_tie
    (OpenClaim.moreEntering_of (by kernel_rfl) (by kernel_rfl) (by kernel_rfl) (by kernel_rfl) (by kernel_rfl) (by kernel_rfl) (by kernel_rfl) (by kernel_rfl) (by kernel_rfl) (by kernel_rfl))
    ⟨_, WideRow.started_initial, quiet _⟩
    (fun os started _ H enc _ => wraps_lifted os started H enc)

#print axioms wraps_holds
end Go.Proofs.Qxb6625454aFmt
