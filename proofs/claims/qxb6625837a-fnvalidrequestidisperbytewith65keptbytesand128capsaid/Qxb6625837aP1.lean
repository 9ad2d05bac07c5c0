/-
  'FnValidRequestIDIsPerByteWith65KeptBytesAnd128Cap'.
-/
import Derived.Test.Qxb6625837aRows
import Derived.Test.Qxb6625837aW3
import Derived.ProofKit
import Derived.ShutString
import Derived.Below
namespace Go.Proofs.Qxb6625837a
open Go.ChangeShapes Go.WideShapes Go.ChangeAt Go.RowKit
open Go.ChangeMaps (open_string shut_string)
set_option maxRecDepth 100000

theorem law4_any (s : ByteArray) (w : World) : Calls Try.prog 4 #[.string s] w fun e w' => e = .returned (.bool true) ∧ Below w.heap.size w w' := by
  by_cases h : (1048576 : Int) < s.size
  · exact law4_long s w h
  by_cases h1 : s.size = 0
  · exact law4_none s w h1
  · exact law4_short s w (by omega) (by omega)

theorem own1 : ownKnob Try.prog.godebug = none := by kernel_rfl

theorem perbyte_lifted (os : Os) (started : os.Started) (H : Type) (enc : TypeId × Value → H) :
    ReturnsInHanded {} Try.checked os 4 .any (Rows.fnValidRequestIDIsPerByteWith65KeptBytesAnd128CapSpec.pre6 enc Try.prog Try.f4 Rows.fnValidRequestIDIsPerByteWith65KeptBytesAnd128CapRow.domain false) (Rows.fnValidRequestIDIsPerByteWith65KeptBytesAnd128CapSpec.post enc Try.prog Try.f4 false true false false) := by
  refine returnsInHanded_of_change (C := Try.checked) own1 started (by kernel_rfl) Try.func4
    (ChangeSpec.witness6 (enc := enc) (C := Try.checked) false ⟨#[], #[.string ByteArray.empty], []⟩ 8 (by kernel_rfl) (by kernel_rfl) (by kernel_rfl) (by kernel_rfl)) ?_
  intro W base args ds gs before hval0 hW _ _
  have hval : ∀ (j : Nat) t v, Try.f4.params[j]? = some t → args[j]? = some v → Value.okWide Try.prog W .any base t v := hval0
  have hW' := hW
  obtain ⟨p, q, hA0, hV, rfl, hfz, hnd⟩ := hW
  have hA : DataW.TrodAll enc Try.prog W 0 (fun _ => true) true Try.f4.params.toList args.toList ds p := hA0
  rw [Try.params4] at hA hval
  obtain ⟨v0, d0, rfl, rfl, h0⟩ := trodAll_one hA
  obtain ⟨rfl, rfl⟩ := trodVars_none hV
  obtain ⟨s, rfl, rfl, rfl, ws⟩ := open_string Try.underlying9 (hval 0 9 v0 rfl rfl) h0
  clear hA0 hval0
  simp only [List.append_nil] at hW'
  refine (law4_any s W).mono fun e W' ⟨he, bel⟩ => ?_
  subst he
  exact ⟨_, rfl, _, _, _, [], [], [], hW', trodAll_mk1 (shut_bool Try.underlying4 _), trodAll_mk1 (shut_string Try.underlying9 ws), rfl, bel.frame _, fun h => by cases h⟩

theorem perbyte_holds : Rows.FnValidRequestIDIsPerByteWith65KeptBytesAnd128CapSaid :=
  OpenClaim.holds_of_wide 4 Try.f4 rfl rfl rfl rfl rfl rfl rfl ⟨rfl, rfl, rfl, rfl, rfl⟩ rfl rfl rfl rfl rfl (by kernel_rfl) Try.func4 (by kernel_rfl)
    (of_decide_eq_true (by kernel_rfl)) (by unfold Func.isWrapper; first | (rw [if_pos (by decide +kernel)]; kernel_rfl) | (rw [if_neg (by decide +kernel)]; exact ⟨rfl, rfl⟩))
    (fun os started H enc _ => perbyte_lifted os started H enc)

#print axioms perbyte_holds
end Go.Proofs.Qxb6625837a
