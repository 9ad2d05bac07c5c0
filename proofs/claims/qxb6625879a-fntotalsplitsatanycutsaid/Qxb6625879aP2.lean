/-
  The second law: 'FnTotalSplitsAtAnyCut'.
-/
import Derived.Test.Qxb6625879aP1
import Derived.Test.Qxb6625879aW3
namespace Go.Proofs.Qxb6625879a
open Go.ChangeShapes Go.WideShapes Go.ChangeAt Go.RowKit
set_option maxRecDepth 100000

theorem law4_any (v : Value) (k : Int) (w : World) (hv : v = .pointer none ∨ ∃ b off c, v = .pointer (some ⟨b, off, none⟩) ∧ Six w b off c) :
    Calls Try.prog 4 #[v, .int .i64 k] w fun e w' => e = .returned (.bool true) ∧ Below w.heap.size w w' := by
  rcases hv with rfl | ⟨b, off, c, rfl, hc⟩
  · exact law4_nil k w
  by_cases h1 : k < 0
  · exact law4_low _ k w h1
  by_cases h2 : 6 < k
  · exact law4_high _ k w h2
  have g0 := (hc 0 (by omega)).1
  have g1 := (hc 1 (by omega)).1
  have g2 := (hc 2 (by omega)).1
  have g3 := (hc 3 (by omega)).1
  have g4 := (hc 4 (by omega)).1
  have g5 := (hc 5 (by omega)).1
  rcases (show k = 0 ∨ k = 1 ∨ k = 2 ∨ k = 3 ∨ k = 4 ∨ k = 5 ∨ k = 6 by omega) with rfl | rfl | rfl | rfl | rfl | rfl | rfl
  · exact law4_at0 b off _ _ _ _ _ _ w (hc 0 (by omega)).2 g0 g1 g2 g3 g4 g5
  · exact law4_at1 b off _ _ _ _ _ _ w (hc 1 (by omega)).2 g0 g1 g2 g3 g4 g5
  · exact law4_at2 b off _ _ _ _ _ _ w (hc 2 (by omega)).2 g0 g1 g2 g3 g4 g5
  · exact law4_at3 b off _ _ _ _ _ _ w (hc 3 (by omega)).2 g0 g1 g2 g3 g4 g5
  · exact law4_at4 b off _ _ _ _ _ _ w (hc 4 (by omega)).2 g0 g1 g2 g3 g4 g5
  · exact law4_at5 b off _ _ _ _ _ _ w (hc 5 (by omega)).2 g0 g1 g2 g3 g4 g5
  · exact law4_at6 b off _ _ _ _ _ _ w (hc 0 (by omega)).2 g0 g1 g2 g3 g4 g5

theorem splits_lifted (os : Os) (started : os.Started) (H : Type) (enc : TypeId × Value → H) :
    ReturnsInHanded {} Try.checked os 4 .any (Rows.fnTotalSplitsAtAnyCutSpec.pre6 enc Try.prog Try.f4 Rows.fnTotalSplitsAtAnyCutRow.domain false) (Rows.fnTotalSplitsAtAnyCutSpec.post enc Try.prog Try.f4 false true false false) := by
  refine returnsInHanded_of_change (C := Try.checked) own started (by kernel_rfl) Try.func4
    (ChangeSpec.witness6 (enc := enc) (C := Try.checked) false ⟨#[], #[.pointer none, .int .i64 0], []⟩ 8 (by kernel_rfl) (by kernel_rfl) (by kernel_rfl) (by kernel_rfl)) ?_
  intro W base args ds gs before hval0 hW _ _
  have hval : ∀ (j : Nat) t v, Try.f4.params[j]? = some t → args[j]? = some v → Value.okWide Try.prog W .any base t v := hval0
  have hW' := hW
  obtain ⟨p, q, hA0, hV, rfl, hfz, hnd⟩ := hW
  have hA : DataW.TrodAll enc Try.prog W 0 (fun _ => true) true Try.f4.params.toList args.toList ds p := hA0
  rw [Try.params4] at hA hval
  obtain ⟨v0, v1, d0, d1, p0, p1, rfl, rfl, rfl, h0, h1⟩ := trodAll_two hA
  obtain ⟨rfl, rfl⟩ := trodVars_none hV
  have lt0 : ∀ x ∈ p0, x.block < W.heap.size := by obtain ⟨m, hm⟩ := h0; exact DataW.trod_lt m _ _ _ hm
  have hsix := open_six (hval 0 22 v0 rfl rfl) h0
  obtain ⟨i, rfl, rfl, rfl, w1⟩ := open_int Try.underlying3 (hval 1 3 v1 rfl rfl) h1
  clear hA0 hval0
  refine (law4_any v0 i W hsix).mono fun e W' ⟨he, bel⟩ => ?_
  subst he
  exact ⟨_, rfl, _, _, _, [], _, [], hW', trodAll_mk1 (shut_bool Try.underlying4 _), (trodAll_mk2 (Below.trod laidOut (by kernel_rfl) (of_decide_eq_true (by kernel_rfl)) h0 bel lt0) (shut_int Try.underlying3 w1)), rfl, bel.frame _, fun h => by cases h⟩

theorem splits_holds : Rows.FnTotalSplitsAtAnyCutSaid :=
  OpenClaim.holds_of_wide 4 Try.f4 rfl rfl rfl rfl rfl rfl rfl ⟨rfl, rfl, rfl, rfl, rfl⟩ rfl rfl rfl rfl rfl (by kernel_rfl) Try.func4 (by kernel_rfl)
    (of_decide_eq_true (by kernel_rfl)) (by unfold Func.isWrapper; first | (rw [if_pos (by decide +kernel)]; kernel_rfl) | (rw [if_neg (by decide +kernel)]; exact ⟨rfl, rfl⟩))
    (fun os started H enc _ => splits_lifted os started H enc)

#print axioms splits_holds
end Go.Proofs.Qxb6625879a
