/-
  Opening an argument of type []R: what the walks want of it. (The same lemmas stand in the first law's text; here under another namespace, so that the second law's claim need not bear the first law's long walk.)
-/
import Derived.Test.Qxb6625648aRows
import Derived.Test.Qxb6625648aW7
import Derived.ProofKit
import Derived.ChangeOld
import Derived.Below
import Derived.Deep.SlicePairs
namespace Go.Proofs.Qxb6625648a
namespace Two
open Go.ChangeShapes Go.WideShapes Go.ChangeAt Go.RowKit
set_option maxRecDepth 100000

theorem own : ownKnob Try.prog.godebug = none := by kernel_rfl
theorem laidOut : laidOutB Try.prog = true := by kernel_rfl
theorem cells31 : Try.prog.cellsOf 31 = 2 := by kernel_rfl
theorem cells23 : Try.prog.cellsOf 23 = 1 := by kernel_rfl
theorem u32_of_wf {n : Int} (h : (Lit.int .u32 n).wf = true) : U32 n := by
  simp [Lit.wf, IntKind.min, IntKind.max, IntKind.signed, IntKind.bits] at h
  exact h

/-- An argument of type []R, as the walks want it. -/
theorem open_ranges {H : Type} {enc : TypeId × Value → H} {W : World} {fuel : Nat} {v : Value} {x : DataW H × List MemPlace}
    (h : DataW.trod enc Try.prog W 0 (fun _ => true) true fuel 22 [v] = some x) : ∃ L, Sees W v L ∧ (v = .slice none 0 0 ∨ ∃ a n c, v = .slice (some a) n c) ∧ U32s L := by
  rcases Deep.open_slice_pairs Try.underlying22 Try.underlying31 cells31 rfl rfl cells23 cells23 h with ⟨hcs, _⟩ | ⟨a, len, cap, m, n, V0, V1, D0, D1, P0, P1, hcs, _, hl, _, hm, _, hc⟩
  · simp at hcs
    subst hcs
    exact ⟨[], ⟨none, 0, rfl, Or.inl rfl⟩, Or.inl rfl, fun p hp => by simp at hp⟩
  · simp at hcs
    subst hcs
    simp only [if_true] at hm
    subst hm
    have each : ∀ i, i < len → ∃ q : Int × Int, W.cell? (a.add (i * 2)) = some (.int .u32 q.1) ∧ W.cell? (a.add (i * 2 + 1)) = some (.int .u32 q.2) ∧ U32 q.1 ∧ U32 q.2 := by
      intro i hi
      obtain ⟨h0, h1, h2, h3⟩ := hc i (by omega)
      obtain ⟨n0, e0, _, w0⟩ := DataW.trod_int Try.underlying23 h2
      obtain ⟨n1, e1, _, w1⟩ := DataW.trod_int Try.underlying23 h3
      simp at e0 e1
      rw [e0] at h0
      rw [e1] at h1
      exact ⟨(n0, n1), h0, h1, u32_of_wf w0, u32_of_wf w1⟩
    obtain ⟨q, hq⟩ := Deep.choose_lt each
    have hlen : ((List.range len).map q).length = len := by simp
    have hget : ∀ (i : Nat) (p : Int × Int), ((List.range len).map q)[i]? = some p → i < len ∧ p = q i := by
      intro i p hp
      rw [List.getElem?_map] at hp
      by_cases hi : i < len
      · rw [List.getElem?_range hi] at hp
        simp at hp
        exact ⟨hi, hp.symm⟩
      · rw [List.getElem?_eq_none (by simpa using hi)] at hp
        simp at hp
    refine ⟨(List.range len).map q, ⟨some a, _, by rw [hlen], ?_⟩, Or.inr ⟨_, _, _, rfl⟩, ?_⟩
    · by_cases h0 : len = 0
      · exact Or.inl (by rw [h0]; rfl)
      · obtain ⟨b, off, spot⟩ := a
        have hspot : spot = none := by simpa [Addr.add] using World.cell?_spot (hq 0 (by omega)).1
        subst hspot
        refine Or.inr ⟨b, off, rfl, ?_, fun i p hp => ?_⟩
        · have := World.block_lt_of_cell? _ _ (hq 0 (by omega)).1
          simpa [Addr.add] using this
        · obtain ⟨hi, rfl⟩ := hget i p hp
          obtain ⟨g0, g1, _⟩ := hq i hi
          rw [add_plain] at g0 g1
          exact ⟨g0, g1⟩
    · intro p hp
      obtain ⟨i, hi, rfl⟩ := List.mem_map.1 hp
      exact (hq i (List.mem_range.1 hi)).2.2

theorem law4_any (v : Value) (L : List (Int × Int)) (a b x : Int) (w : World) (hs : Sees w v L) (hn : v = .slice none 0 0 ∨ ∃ a n c, v = .slice (some a) n c) (hu : U32s L) (ha : U32 a) (hb : U32 b) (hx : U32 x) :
    Calls Try.prog 4 #[v, .int .u32 a, .int .u32 b, .int .u32 x] w fun e w' => e = .returned (.bool true) ∧ Below w.heap.size w w' := by
  have hs0 := hs
  obtain ⟨ad, cap, hv, _⟩ := hs
  by_cases h1 : (1048576 : Int) < L.length
  · subst hv; exact law4_long ad L.length cap a b x w h1
  by_cases h2 : (65536 : Int) < L.length
  · subst hv; exact law4_mid ad L.length cap a b x w (by omega) h2
  by_cases hf : L.all fits = true
  · exact law4_main v ad cap L a b x w hv (by omega) hu ha hb hx hs0 hn hf
  · exact law4_wraps v ad cap L a b x w hv (by omega) hu hs0 (by simpa using hf)

theorem order_lifted (os : Os) (started : os.Started) (H : Type) (enc : TypeId × Value → H) :
    ReturnsInHanded {} Try.checked os 4 .any (Rows.fnWithoutOrderFreeAndLeavesOutJustTheIDsSpec.pre6 enc Try.prog Try.f4 Rows.fnWithoutOrderFreeAndLeavesOutJustTheIDsRow.domain false) (Rows.fnWithoutOrderFreeAndLeavesOutJustTheIDsSpec.post enc Try.prog Try.f4 false true false false) := by
  refine returnsInHanded_of_change (C := Try.checked) own started (by kernel_rfl) Try.func4
    (ChangeSpec.witness6 (enc := enc) (C := Try.checked) false ⟨#[], #[.slice none 0 0, .int .u32 0, .int .u32 0, .int .u32 0], []⟩ 8 (by kernel_rfl) (by kernel_rfl) (by kernel_rfl) (by kernel_rfl)) ?_
  intro W base args ds gs before hval0 hW _ _
  have hval : ∀ (j : Nat) t v, Try.f4.params[j]? = some t → args[j]? = some v → Value.okWide Try.prog W .any base t v := hval0
  have hW' := hW
  obtain ⟨p, q, hA0, hV, rfl, hfz, hnd⟩ := hW
  have hA : DataW.TrodAll enc Try.prog W 0 (fun _ => true) true Try.f4.params.toList args.toList ds p := hA0
  rw [Try.params4] at hA hval
  obtain ⟨v0, v1, v2, v3, d0, d1, d2, d3, p0, p1, p2, p3, rfl, rfl, rfl, h0, h1, h2, h3⟩ := trodAll_four hA
  obtain ⟨rfl, rfl⟩ := trodVars_none hV
  obtain ⟨a0, len0, cap0, rfl⟩ := okWide_slice Try.underlying22 (hval 0 22 v0 rfl rfl)
  have k0 := h0
  have lt0 : ∀ x ∈ p0, x.block < W.heap.size := by obtain ⟨m, hm⟩ := k0; exact DataW.trod_lt m _ _ _ hm
  obtain ⟨L, hs, hn, hu⟩ : ∃ L, Sees W (.slice a0 len0 cap0) L ∧ (Value.slice a0 len0 cap0 = .slice none 0 0 ∨ ∃ a n c, Value.slice a0 len0 cap0 = .slice (some a) n c) ∧ U32s L := by
    obtain ⟨fuel, hf⟩ := h0
    exact open_ranges (by simpa [Value.cells] using hf)
  obtain ⟨a, rfl, rfl, rfl, w1⟩ := open_int Try.underlying23 (hval 1 23 v1 rfl rfl) h1
  obtain ⟨b, rfl, rfl, rfl, w2⟩ := open_int Try.underlying23 (hval 2 23 v2 rfl rfl) h2
  obtain ⟨x, rfl, rfl, rfl, w3⟩ := open_int Try.underlying23 (hval 3 23 v3 rfl rfl) h3
  clear hA0 hval0
  refine (law4_any (.slice a0 len0 cap0) L a b x W hs hn hu (u32_of_wf w1) (u32_of_wf w2) (u32_of_wf w3)).mono fun e W' ⟨he, bel⟩ => ?_
  subst he
  exact ⟨_, rfl, _, _, _, [], _, [], hW', trodAll_mk1 (shut_bool Try.underlying4 _), (trodAll_mk4 (Below.trod laidOut (by kernel_rfl) (of_decide_eq_true (by kernel_rfl)) k0 bel lt0) (shut_int Try.underlying23 w1) (shut_int Try.underlying23 w2) (shut_int Try.underlying23 w3)), rfl, bel.frame _, fun h => by cases h⟩

theorem order_holds : Rows.FnWithoutOrderFreeAndLeavesOutJustTheIDsSaid :=
  OpenClaim.holds_of_wide 4 Try.f4 rfl rfl rfl rfl rfl rfl rfl ⟨rfl, rfl, rfl, rfl, rfl⟩ rfl rfl rfl rfl rfl (by kernel_rfl) Try.func4 (by kernel_rfl)
    (of_decide_eq_true (by kernel_rfl)) (by unfold Func.isWrapper; first | (rw [if_pos (by decide +kernel)]; kernel_rfl) | (rw [if_neg (by decide +kernel)]; exact ⟨rfl, rfl⟩))
    (fun os started H enc _ => order_lifted os started H enc)

end Two

theorem order_holds : Rows.FnWithoutOrderFreeAndLeavesOutJustTheIDsSaid := Two.order_holds
#print axioms order_holds
end Go.Proofs.Qxb6625648a
