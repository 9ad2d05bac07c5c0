/-
  The second law's card: fmt's text told, its two sentinels tied to the program's text.
-/
import Derived.Test.Qxb6625454aFmtProofA
import Derived.Test.Qxb6625454aFmtWalkD
namespace Go.Proofs.Qxb6625454aFmt
open Go.ChangeShapes Go.WideShapes Go.ChangeAt Go.RowKit Go.Kit
open Go.ChangeMaps (open_string shut_string)
open Go.Extern.Stop Go.Stop Go.Extern

set_option maxRecDepth 100000 in
theorem tells_lifted (os : Os) (started : os.Started) (H : Type) (enc : TypeId × Value → H) :
    ReturnsInTold none {} Tryf.checked os 4 .any Input.okWide ((OpenSpec.ofChange Rows.fnNotJSONTellsTheEndByIdentityNotTextSpec).preRow enc Tryf.prog Tryf.f4 [] false Rows.fnNotJSONTellsTheEndByIdentityNotTextRow.laid) (fun F => ((OpenSpec.ofChange Rows.fnNotJSONTellsTheEndByIdentityNotTextSpec).at F).post enc Tryf.prog Tryf.f4 false true false false) (aloneAtReturn Tryf.prog) nothingAlways := by
  refine returnsInTold_of_row (C := Tryf.checked) (s := OpenSpec.ofChange Rows.fnNotJSONTellsTheEndByIdentityNotTextSpec) (by kernel_rfl) own started (by kernel_rfl) Tryf.func4
    (OpenSpec.witness_stopped_at (enc := enc) (C := Tryf.checked) false (laidWorldOf Tryf.prog os) #[.string ByteArray.empty] rfl (by kernel_rfl) (by kernel_rfl) (by kernel_rfl)
      (OpenSpec.preRow_of_B rfl 8 (by kernel_rfl) (by kernel_rfl) (laid_met os _))) ?_
  intro F W base args ds gs before _ hF hval0 hW _ _ _ hL _
  have hval : ∀ (j : Nat) t v, Tryf.f4.params[j]? = some t → args[j]? = some v → Value.okWide Tryf.prog W .any base t v := hval0
  have hW' := hW
  obtain ⟨p, q, hA0, hV, rfl, hfz, hnd⟩ := hW
  have hA : DataW.TrodAll enc Tryf.prog W 0 (fun _ => true) true Tryf.f4.params.toList args.toList ds p := hA0
  rw [Tryf.params4] at hA hval
  obtain ⟨v0, d0, rfl, rfl, h0⟩ := trodAll_one hA
  obtain ⟨rfl, rfl⟩ := trodVars_none hV
  obtain ⟨s, rfl, rfl, rfl, ws⟩ := open_string Tryf.underlying9 (hval 0 9 v0 rfl rfl) h0
  obtain ⟨a0, a1, s0, s1, c0, c1, t0, t1, hv0, hv1, hc0, hs0, hz0, hc1, hs1, hz1, hne, hb0, hb1⟩ := laid_sentinels2 hL gE gEType gU gUType Tryf.underlying28 row32 Tryf.underlying32 Tryf.underlying34 rfl rfl Tryf.underlying9 cells34 cells9
  clear hA0 hval0
  simp only [List.append_nil] at hW'
  have hg0 : W.cell? ⟨0, 0, none⟩ = some (.iface 32 (.pointer (some a0))) := by simpa using World.var?_cell gE hv0 0
  have hg1 : W.cell? ⟨1, 0, none⟩ = some (.iface 32 (.pointer (some a1))) := by simpa using World.var?_cell gU hv1 0
  have hcall : Calls Tryf.prog 4 #[.string s] W fun e w' => e = .returned (.bool true) ∧ Below W.heap.size W w' := by
    by_cases hlen : (s.size : Int) ≤ 1048576
    · exact law4_short F.told a0 a1 s c0 c1 t0 t1 W hF hg0 hg1 hne hb0 hb1 hlen
    · exact (law4_long s W (by omega)).mono fun e w' ⟨he, hw⟩ => ⟨he, by subst hw; exact Below.refl _ _⟩
  refine hcall.mono fun e W' ⟨he, hb⟩ => ?_
  subst he
  refine ⟨_, rfl, _, _, _, [], [], [], hW', ?_, ?_, ?_, hb.frame _, fun h => by cases h⟩
  · exact trodAll_mk1 (shut_bool Tryf.underlying4 true)
  · exact trodAll_mk1 (shut_string Tryf.underlying9 ws)
  · exact rfl

theorem tells_holds : Rows.FnNotJSONTellsTheEndByIdentityNotTextToldSaid :=
  Claim7.holds_of_told_tied_any_at .later 4 Tryf.f4 "fmt.errorf" [] [] _ _ _ _ _ (by kernel_rfl) rfl rfl rfl laidOut (by kernel_rfl) rfl ⟨rfl, rfl, rfl, rfl, rfl, rfl, rfl⟩ rfl rfl (by kernel_rfl) (by kernel_rfl) Tryf.func4 (by kernel_rfl)
    (of_decide_eq_true (by kernel_rfl)) (of_decide_eq_true (by kernel_rfl)) stopsAre.symm rfl stopKnobsAre.symm (by kernel_rfl)
    (by kernel_rfl) (by kernel_rfl) (by kernel_rfl) (by kernel_rfl) (by kernel_rfl) (by kernel_rfl) (by kernel_rfl) (by kernel_rfl) (by kernel_rfl) rfl (by kernel_rfl) rfl rfl
    rfl rfl
    rfl (by kernel_rfl) (by kernel_rfl) (by kernel_rfl) (by decide) (by kernel_rfl) fnNotJSONTellsTheEndByIdentityNotText_row_tie
    (OpenClaim.moreEntering_of (by kernel_rfl) (by kernel_rfl) (by kernel_rfl) (by kernel_rfl) (by kernel_rfl) (by kernel_rfl) (by kernel_rfl) (by kernel_rfl) (by kernel_rfl) (by kernel_rfl))
    ⟨_, WideRow.started_initial, quiet _⟩
    (fun os started _ H enc _ => tells_lifted os started H enc)

#print axioms tells_holds
end Go.Proofs.Qxb6625454aFmt
