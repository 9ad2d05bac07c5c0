/-
  The first law: 'FnTotalShiftsByDelta'.
-/
import Derived.Test.Qxb6625879aRows
import Derived.Test.Qxb6625879aW2
import Derived.ProofKit
import Derived.OpenShut
import Derived.ChangeOld
import Derived.Below
import Derived.Deep.Slices
namespace Go.Proofs.Qxb6625879a
open Go.ChangeShapes Go.WideShapes Go.ChangeAt Go.RowKit
set_option maxRecDepth 100000

theorem own : ownKnob Try.prog.godebug = none := by kernel_rfl
theorem laidOut : laidOutB Try.prog = true := by kernel_rfl
theorem cells23 : Try.prog.cellsOf 23 = 6 := by kernel_rfl
theorem cells3 : Try.prog.cellsOf 3 = 1 := by kernel_rfl
theorem i64_of_wf {n : Int} (h : (Lit.int .i64 n).wf = true) : -9223372036854775808 ≤ n ∧ n ≤ 9223372036854775807 := by
  simp [Lit.wf, IntKind.min, IntKind.max, IntKind.signed, IntKind.bits] at h
  exact h

/-- The six cells behind a pointer to [6]int. -/
def Six (w : World) (b off : Nat) (c : Nat → Int) : Prop := ∀ k, k < 6 → w.cell? ⟨b, off + k, none⟩ = some (.int .i64 (c k)) ∧ -9223372036854775808 ≤ c k ∧ c k ≤ 9223372036854775807

/-- An argument of type *[6]int. -/
theorem open_six {H : Type} {enc : TypeId × Value → H} {W : World} {base : Nat} {v : Value} {d : DataW H} {ps : List MemPlace} (hval : Value.okWide Try.prog W .any base 22 v) (h : DataW.Trod enc Try.prog W 0 (fun _ => true) true 22 v d ps) :
    v = .pointer none ∨ ∃ b off c, v = .pointer (some ⟨b, off, none⟩) ∧ Six W b off c := by
  rcases ChangeShapes.open_ptr Try.underlying22 (by rw [cells23]; omega) hval h with ⟨hv, _⟩ | ⟨b, off, cs, y, fuel, hv, _, _, hlen, hcell, hy⟩
  · exact Or.inl hv
  · right
    rw [cells23] at hlen hcell
    obtain ⟨xs, m, _, _, _, hxl, hx⟩ := DataW.trod_array Try.underlying23 hy
    have each : ∀ k, k < 6 → ∃ n : Int, cs[k]? = some (.int .i64 n) ∧ -9223372036854775808 ≤ n ∧ n ≤ 9223372036854775807 := by
      intro k hk
      have hk' := hx k hk
      rw [cells3, Nat.mul_one, List.getElem?_eq_getElem (by omega)] at hk'
      obtain ⟨n, e, _, wn⟩ := DataW.trod_int Try.underlying3 hk'
      refine ⟨n, ?_, i64_of_wf wn⟩
      have e2 : ((cs.drop k).take 1)[0]? = some (.int .i64 n) := by rw [e]; rfl
      simpa [List.getElem?_take, List.getElem?_drop] using e2
    obtain ⟨c, hc⟩ := Deep.choose_lt each
    exact ⟨b, off, c, hv, fun k hk => by rw [hcell k hk]; exact hc k hk⟩

theorem law3_any (v : Value) (i d : Int) (w : World) (hd : -9223372036854775808 ≤ d ∧ d ≤ 9223372036854775807) (hv : v = .pointer none ∨ ∃ b off c, v = .pointer (some ⟨b, off, none⟩) ∧ Six w b off c) :
    Calls Try.prog 3 #[v, .int .i64 i, .int .i64 d] w fun e w' => e = .returned (.bool true) ∧ Below w.heap.size w w' := by
  rcases hv with rfl | ⟨b, off, c, rfl, hc⟩
  · exact law3_nil i d w
  by_cases h1 : i < 0
  · exact law3_low _ i d w h1
  by_cases h2 : 6 ≤ i
  · exact law3_high _ i d w h2
  have g0 := (hc 0 (by omega)).1
  have g1 := (hc 1 (by omega)).1
  have g2 := (hc 2 (by omega)).1
  have g3 := (hc 3 (by omega)).1
  have g4 := (hc 4 (by omega)).1
  have g5 := (hc 5 (by omega)).1
  rcases (show i = 0 ∨ i = 1 ∨ i = 2 ∨ i = 3 ∨ i = 4 ∨ i = 5 by omega) with rfl | rfl | rfl | rfl | rfl | rfl
  · exact law3_at0 b off _ _ _ _ _ _ d w hd g0 g1 g2 g3 g4 g5
  · exact law3_at1 b off _ _ _ _ _ _ d w hd g0 g1 g2 g3 g4 g5
  · exact law3_at2 b off _ _ _ _ _ _ d w hd g0 g1 g2 g3 g4 g5
  · exact law3_at3 b off _ _ _ _ _ _ d w hd g0 g1 g2 g3 g4 g5
  · exact law3_at4 b off _ _ _ _ _ _ d w hd g0 g1 g2 g3 g4 g5
  · exact law3_at5 b off _ _ _ _ _ _ d w hd g0 g1 g2 g3 g4 g5

theorem shifts_lifted (os : Os) (started : os.Started) (H : Type) (enc : TypeId × Value → H) :
    ReturnsInHanded {} Try.checked os 3 .any (Rows.fnTotalShiftsByDeltaSpec.pre6 enc Try.prog Try.f3 Rows.fnTotalShiftsByDeltaRow.domain false) (Rows.fnTotalShiftsByDeltaSpec.post enc Try.prog Try.f3 false true false false) := by
  refine returnsInHanded_of_change (C := Try.checked) own started (by kernel_rfl) Try.func3
    (ChangeSpec.witness6 (enc := enc) (C := Try.checked) false ⟨#[], #[.pointer none, .int .i64 0, .int .i64 0], []⟩ 8 (by kernel_rfl) (by kernel_rfl) (by kernel_rfl) (by kernel_rfl)) ?_
  intro W base args ds gs before hval0 hW _ _
  have hval : ∀ (j : Nat) t v, Try.f3.params[j]? = some t → args[j]? = some v → Value.okWide Try.prog W .any base t v := hval0
  have hW' := hW
  obtain ⟨p, q, hA0, hV, rfl, hfz, hnd⟩ := hW
  have hA : DataW.TrodAll enc Try.prog W 0 (fun _ => true) true Try.f3.params.toList args.toList ds p := hA0
  rw [Try.params3] at hA hval
  obtain ⟨v0, v1, v2, d0, d1, d2, p0, p1, p2, rfl, rfl, rfl, h0, h1, h2⟩ := trodAll_three hA
  obtain ⟨rfl, rfl⟩ := trodVars_none hV
  have lt0 : ∀ x ∈ p0, x.block < W.heap.size := by obtain ⟨m, hm⟩ := h0; exact DataW.trod_lt m _ _ _ hm
  have hsix := open_six (hval 0 22 v0 rfl rfl) h0
  obtain ⟨i, rfl, rfl, rfl, w1⟩ := open_int Try.underlying3 (hval 1 3 v1 rfl rfl) h1
  obtain ⟨d, rfl, rfl, rfl, w2⟩ := open_int Try.underlying3 (hval 2 3 v2 rfl rfl) h2
  clear hA0 hval0
  refine (law3_any v0 i d W (i64_of_wf w2) hsix).mono fun e W' ⟨he, bel⟩ => ?_
  subst he
  exact ⟨_, rfl, _, _, _, [], _, [], hW', trodAll_mk1 (shut_bool Try.underlying4 _), (trodAll_mk3 (Below.trod laidOut (by kernel_rfl) (of_decide_eq_true (by kernel_rfl)) h0 bel lt0) (shut_int Try.underlying3 w1) (shut_int Try.underlying3 w2)), rfl, bel.frame _, fun h => by cases h⟩

theorem shifts_holds : Rows.FnTotalShiftsByDeltaSaid :=
  OpenClaim.holds_of_wide 3 Try.f3 rfl rfl rfl rfl rfl rfl rfl ⟨rfl, rfl, rfl, rfl, rfl⟩ rfl rfl rfl rfl rfl (by kernel_rfl) Try.func3 (by kernel_rfl)
    (of_decide_eq_true (by kernel_rfl)) (by unfold Func.isWrapper; first | (rw [if_pos (by decide +kernel)]; kernel_rfl) | (rw [if_neg (by decide +kernel)]; exact ⟨rfl, rfl⟩))
    (fun os started H enc _ => shifts_lifted os started H enc)

#print axioms shifts_holds
end Go.Proofs.Qxb6625879a
