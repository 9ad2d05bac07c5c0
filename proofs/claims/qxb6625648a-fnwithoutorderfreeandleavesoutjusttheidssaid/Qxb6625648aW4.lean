/-
  The first law's walk.
-/
import Derived.Test.Qxb6625648aW3
namespace Go.Proofs.Qxb6625648a
open Go.RowKit
set_option maxRecDepth 100000

/-- the slice that without hands back, taken apart -/
theorem out_some {w w' : World} {v' : Value} {M : List (Int × Int)} (h : Out w w' v' M) (hM : M ≠ []) : ∃ g cap, v' = .slice (some ⟨g, 0, none⟩) M.length cap ∧ At w' g 0 M := by
  obtain ⟨ho, _, _⟩ := h
  obtain ⟨ad, cap, rfl, hs⟩ := sees_of_own ho
  rcases ho.2 with ⟨he, hn⟩ | ⟨g, cap', cur, he, _⟩
  · exact absurd (List.eq_nil_of_length_eq_zero hn) hM
  · rcases hs with hs | ⟨b, off, rfl, _, hat⟩
    · exact absurd hs hM
    · simp only [Value.slice.injEq, Option.some.injEq, Addr.mk.injEq] at he
      obtain ⟨⟨rfl, rfl, _⟩, _, _⟩ := he
      exact ⟨_, cap, rfl, hat⟩

set_option maxHeartbeats 400000 in
theorem law3_long (ad : Option Addr) (len cap : Nat) (id : Int) (w : World) (h : (1048576 : Int) < len) :
    Calls Try.prog 3 #[.slice ad len cap, .int .u32 id] w fun e w' => e = .returned (.bool true) ∧ Below w.heap.size w w' := by
  go_enter Try.func3, Try.ntmps3
  go_wp2_with fail
  refine (bytes5_no _ _ _ _ _ h).mono ?_
  rintro e w' ⟨rfl, rfl⟩
  go_wp2
  go_ret
  exact ⟨rfl, Below.refl _ _⟩

set_option maxHeartbeats 400000 in
theorem law3_mid (ad : Option Addr) (len cap : Nat) (id : Int) (w : World) (h : (len : Int) ≤ 1048576) (h2 : (65536 : Int) < len) :
    Calls Try.prog 3 #[.slice ad len cap, .int .u32 id] w fun e w' => e = .returned (.bool true) ∧ Below w.heap.size w w' := by
  go_enter Try.func3, Try.ntmps3
  go_wp2_with fail
  refine (bytes5_yes _ _ _ _ _ h).mono ?_
  rintro e w' ⟨rfl, rfl⟩
  go_wp2
  go_ret
  exact ⟨rfl, Below.refl _ _⟩

set_option maxHeartbeats 400000 in
theorem law3_wraps (v : Value) (ad : Option Addr) (cap : Nat) (L : List (Int × Int)) (id : Int) (w : World) (hv : v = .slice ad L.length cap) (h2 : (L.length : Int) ≤ 65536) (hu : U32s L) (hs : Sees w v L) (hf : L.all fits = false) :
    Calls Try.prog 3 #[v, .int .u32 id] w fun e w' => e = .returned (.bool true) ∧ Below w.heap.size w w' := by
  subst hv
  have H := fun u => noWrap_any (.slice ad L.length cap) L u (by omega) hu
  rw [hf] at H
  clear hf hu
  go_enter Try.func3, Try.ntmps3
  go_wp2_with fail
  refine (bytes5_yes _ _ _ _ _ (by omega)).mono ?_
  rintro e w' ⟨rfl, hw⟩
  subst w'
  go_wp2_with fail
  refine (H _ hs).mono ?_
  clear H
  rintro e w' ⟨rfl, n, rfl⟩
  go_wp2
  go_ret
  exact ⟨rfl, below_drewN (Below.refl _ _) _⟩

set_option maxHeartbeats 400000 in
theorem law3_none (v : Value) (ad : Option Addr) (cap : Nat) (id : Int) (w : World) (hv : v = .slice ad 0 cap) (hid : U32 id) (hn : v = .slice none 0 0 ∨ ∃ a n c, v = .slice (some a) n c) :
    Calls Try.prog 3 #[v, .int .u32 id] w fun e w' => e = .returned (.bool true) ∧ Below w.heap.size w w' := by
  have hs : ∀ u, Sees u v [] := fun u => ⟨ad, cap, hv, Or.inl rfl⟩
  have H6 := fun u => noWrap_any v [] u (by simp) (fun p hp => by simp at hp) (hs u)
  have H8 := fun u => toRanges_any v [] u (by simp) (hs u) hn
  have H7 := fun v1 u hu1 => zzwithout_any v1 [] id u (by simp) (fun p hp => by simp at hp) hid rfl hu1
  simp only [List.all_nil] at H6
  subst hv
  have hq := fun u => Lib.run_eql_slice_nil (P := Try.prog) u 26 32 none 0 0 0 0 Try.underlying26
  obtain ⟨d0, d1⟩ := hid
  clear hs hn
  go_enter Try.func3, Try.ntmps3
  go_wp2_with fail
  refine (bytes5_yes _ _ _ _ _ (by simp)).mono ?_
  rintro e w' ⟨rfl, hw⟩
  subst w'
  go_wp2_with fail
  refine (H6 _).mono ?_
  rintro e w' ⟨rfl, n, rfl⟩
  go_wp2_with fail
  refine (H8 _).mono ?_
  rintro e w1 ⟨v1, rfl, hs1, hb1⟩
  go_wp2_with fail
  refine (H7 _ _ hs1).mono ?_
  rintro e w2 ⟨v2, rfl, ho⟩
  obtain rfl := ho.2.1 rfl
  have hb2 : Below w.heap.size w w2 := (below_drewN (Below.refl _ w) n).trans (hb1.trans (ho.2.2.mono hb1.size))
  clear H6 H7 H8 ho hb1 hs1
  go_wp2
  refine wp_loop_rounds 1 ?_
  rw [rounds_succ]
  go_wp2
  go_ret
  exact ⟨rfl, hb2⟩
end Go.Proofs.Qxb6625648a
