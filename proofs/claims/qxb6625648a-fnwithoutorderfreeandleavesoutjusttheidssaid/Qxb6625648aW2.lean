/-
  zzToRanges: a copy of the ranges in new memory.
-/
import Derived.Test.Qxb6625648aW1
import Derived.BigRegion
namespace Go.Proofs.Qxb6625648a
open Go.RowKit

/-- The cells of a list of ranges. -/
def flat (L : List (Int × Int)) : List Value := L.flatMap fun p => [.int .u32 p.1, .int .u32 p.2]
theorem flat_append (A B : List (Int × Int)) : flat (A ++ B) = flat A ++ flat B := by simp [flat]
theorem flat_length (L : List (Int × Int)) : (flat L).length = L.length * 2 := by
  induction L with
  | nil => rfl
  | cons p L ih => simp only [flat, List.flatMap_cons, List.length_append, List.length_cons, List.length_nil] at ih ⊢; omega
theorem flat_at {L : List (Int × Int)} {i : Nat} {p : Int × Int} (h : L[i]? = some p) : (flat L)[i * 2]? = some (.int .u32 p.1) ∧ (flat L)[i * 2 + 1]? = some (.int .u32 p.2) := by
  induction L generalizing i with
  | nil => simp at h
  | cons q L ih =>
    have e : flat (q :: L) = .int .u32 q.1 :: .int .u32 q.2 :: flat L := rfl
    rw [e]
    cases i with
    | zero => simp at h; subst h; exact ⟨rfl, rfl⟩
    | succ i =>
      have := ih (i := i) (by simpa using h)
      rw [show (i + 1) * 2 = i * 2 + 1 + 1 from by omega]
      simpa using this
theorem info32 : (Try.prog.info? 32).map (fun i => (i.zero, i.size, i.bytes)) = some (some (.agg #[.int .u32 0, .int .u32 0]), 2, 8) := by kernel_rfl

set_option maxHeartbeats 400000 in
theorem toRanges_nil (w : World) : Calls Try.prog 8 #[.slice none 0 0] w fun e w' => e = .returned (.slice none 0 0) ∧ w' = w := by
  have hq := fun u => Lib.run_eql_slice_nil (P := Try.prog) u 22 31 none 0 0 0 0 Try.underlying22
  go_enter Try.func8, Try.ntmps8
  go_wp2
  go_ret
  exact ⟨rfl, rfl⟩

theorem own_cell {w : World} {base g n cap j : Nat} {e : TypeId} {xs : List Value} (h : w.ownsRow base e 2 (.slice (some ⟨g, 0, none⟩) n cap) n xs) (hj : j < n * 2) : ∃ u, w.cell? ⟨g, j, none⟩ = some u := by
  rw [h.cellAt j hj]
  exact ⟨_, List.getElem?_eq_getElem (by rw [h.1]; exact hj)⟩

/-- one round's two stores -/
theorem set_pair (A : List Value) (k : Nat) (hA : A.length = k * 2) (rest : List Value) (u v x y : Value) : ((A ++ (x :: y :: rest)).set (k * 2) u).set (k * 2 + 1) v = A ++ [u, v] ++ rest := by
  rw [List.set_append_right _ _ (by omega), show k * 2 - A.length = 0 from by omega, List.set_cons_zero, List.set_append_right _ _ (by omega), show k * 2 + 1 - A.length = 1 from by omega]
  simp

theorem store_round {w : World} {base g n k : Nat} {L : List (Int × Int)} {p : Int × Int} {rest : List Value} (hn : n = L.length) (hlt : k < n) (hp : L[k]? = some p)
    (h : w.ownsRow base 32 2 (.slice (some ⟨g, 0, none⟩) n n) n (flat (L.take k) ++ rest)) :
    ∃ rest', ((w.setCell ⟨g, k * 2, none⟩ (.int .u32 p.1)).setCell ⟨g, k * 2 + 1, none⟩ (.int .u32 p.2)).ownsRow base 32 2 (.slice (some ⟨g, 0, none⟩) n n) n (flat (L.take (k + 1)) ++ rest') := by
  have hk : (flat (L.take k)).length = k * 2 := by rw [flat_length, List.length_take]; omega
  have hr : rest.length = (n - k) * 2 := by have := h.1; rw [List.length_append, hk] at this; omega
  match rest, hr with
  | [], hr => simp at hr; omega
  | [_], hr => simp at hr; omega
  | x :: y :: rest, _ =>
    refine ⟨rest, ?_⟩
    have := ((h.stored (k * 2) (.int .u32 p.1)).1.stored (k * 2 + 1) (.int .u32 p.2)).1
    rw [set_pair _ _ hk] at this
    rw [take_succ hp, flat_append]
    exact this

theorem own_end {w : World} {base g n k : Nat} {L : List (Int × Int)} {rest : List Value} (hn : n = L.length) (hk : ¬ k < n)
    (h : w.ownsRow base 32 2 (.slice (some ⟨g, 0, none⟩) n n) n (flat (L.take k) ++ rest)) : w.ownsRow base 32 2 (.slice (some ⟨g, 0, none⟩) n n) n (flat L) := by
  rw [List.take_of_length_le (by omega)] at h
  have h1 := h.1
  rw [List.length_append, flat_length] at h1
  have hr : rest = [] := List.eq_nil_of_length_eq_zero (by omega)
  subst hr
  simpa using h

set_option maxHeartbeats 1000000 in
theorem toRanges_some (b off cap : Nat) (L : List (Int × Int)) (w : World) (hl : L.length ≤ 1048576) (hlt0 : b < w.heap.size) (hc : At w b off L) :
    Calls Try.prog 8 #[.slice (some ⟨b, off, none⟩) L.length cap] w fun e w' => e = .returned (.slice (some ⟨w.heap.size, 0, none⟩) L.length L.length) ∧
      w'.ownsRow w.heap.size 32 2 (.slice (some ⟨w.heap.size, 0, none⟩) L.length L.length) L.length (flat L) ∧ Below w.heap.size w w' := by
  obtain ⟨i0, hi, hz0, hz1, hz2⟩ := info_parts info32
  have hq := fun u => Lib.run_eql_slice_nil (P := Try.prog) u 22 31 (some ⟨b, off, none⟩) L.length cap 0 0 Try.underlying22
  go_enter Try.func8, Try.ntmps8
  go_wp2_with (at_make; refine wpList_make_full _ rfl _ _ 26 rfl w.heap.size 32 i0 _ 2 Try.underlying26 hi hz0 hz1 _ _ _ _ L.length rfl rfl rfl rfl (by rw [hz2]; omega) (by unfold maxLen; omega) (Nat.le_refl _) ?_)
  intro w1 hown hgrow
  have hb1 : Below w.heap.size w w1 := (Below.refl _ w).grown hgrow (Nat.le_refl _) (fun k hk => by cases hk)
  clear hgrow
  go_wp2
  go_loopw [4] (fun i wr => ∃ (k : Nat) (rest : List Value), k ≤ L.length ∧ i = .int .i64 k ∧ wr.ownsRow w.heap.size 32 2 (.slice (some ⟨w.heap.size, 0, none⟩) L.length L.length) L.length (flat (L.take k) ++ rest) ∧ Below w.heap.size w wr) (fun i _ => L.length - (intOf i).toNat)
  case atStart => exact ⟨0, _, Nat.zero_le _, rfl, by simpa [flat] using hown, hb1⟩
  case round =>
    clear hown hb1
    obtain ⟨k, rest, hk, rfl, hown, hbel⟩ := hrel
    by_cases hlt : k < L.length
    · obtain ⟨p, hp⟩ : ∃ p, L[k]? = some p := ⟨_, List.getElem?_eq_getElem hlt⟩
      obtain ⟨hc0', hc1'⟩ := hc k p hp
      have hc0 := (hbel.cell (p := ⟨b, off + k * 2, none⟩) hlt0).trans hc0'
      have hc1 := (hbel.cell (p := ⟨b, off + k * 2 + 1, none⟩) hlt0).trans hc1'
      have hf0 := hown.frozenAt (k * 2)
      have hf1 := hown.frozenAt (k * 2 + 1)
      obtain ⟨u0, hd0⟩ := own_cell hown (j := k * 2) (by omega)
      obtain ⟨u1, hd1⟩ := own_cell hown (j := k * 2 + 1) (by omega)
      have HR : Hid (∃ rest', ((wr.setCell ⟨w.heap.size, k * 2, none⟩ (.int .u32 p.1)).setCell ⟨w.heap.size, k * 2 + 1, none⟩ (.int .u32 p.2)).ownsRow w.heap.size 32 2 (.slice (some ⟨w.heap.size, 0, none⟩) L.length L.length) L.length (flat (L.take (k + 1)) ++ rest')) := store_round rfl hlt hp hown
      clear hc0' hc1' hc hp hown
      go_wp2
      go_region
      all_goals go_wp2
      all_goals
        go_roundw
        case rel =>
          obtain ⟨rest', hr⟩ := HR.out
          exact ⟨k + 1, rest', by omega, by go_num, hr, ((hbel.setCell (Nat.le_refl _) _).setCell (Nat.le_refl _) _).drew⟩
        case measure => simp [intOf]; omega
    · have hend := own_end rfl hlt hown
      clear hc hown
      go_wp2
      go_ret
      exact ⟨rfl, hend, hbel⟩

set_option maxHeartbeats 400000 in
theorem toRanges_empty (a : Addr) (cap : Nat) (w : World) :
    Calls Try.prog 8 #[.slice (some a) 0 cap] w fun e w' => e = .returned (.slice (some ⟨w.heap.size, 0, none⟩) 0 0) ∧ Below w.heap.size w w' := by
  obtain ⟨i0, hi, hz0, hz1, hz2⟩ := info_parts info32
  have hq := fun u => Lib.run_eql_slice_nil (P := Try.prog) u 22 31 (some a) 0 cap 0 0 Try.underlying22
  go_enter Try.func8, Try.ntmps8
  go_wp2_with (at_make; refine wpList_make_full _ rfl _ _ 26 rfl w.heap.size 32 i0 _ 2 Try.underlying26 hi hz0 hz1 _ _ _ _ 0 rfl rfl rfl rfl (by rw [hz2]; omega) (by unfold maxLen; omega) (Nat.le_refl _) ?_)
  intro w1 hown hgrow
  have hb1 : Below w.heap.size w w1 := (Below.refl _ w).grown hgrow (Nat.le_refl _) (fun k hk => by cases hk)
  clear hgrow hown
  go_wp2
  refine wp_loop_rounds 1 ?_
  rw [rounds_succ]
  go_wp2
  go_ret
  exact ⟨rfl, hb1⟩

theorem sees_of_own {w : World} {base : Nat} {v : Value} {L : List (Int × Int)} (h : w.ownsRow base 32 2 v L.length (flat L)) : Sees w v L := by
  rcases h.2 with ⟨rfl, hn⟩ | ⟨g, cap, cur, rfl, hb, hg, _⟩
  · exact ⟨none, 0, by rw [hn], Or.inl (List.eq_nil_of_length_eq_zero hn)⟩
  · refine ⟨_, cap, rfl, Or.inr ⟨g, 0, rfl, (Array.getElem?_eq_some_iff.1 hg).1, fun i p hp => ?_⟩⟩
    have hi : i < L.length := (List.getElem?_eq_some_iff.1 hp).1
    obtain ⟨h0, h1⟩ := flat_at hp
    rw [Nat.zero_add, h.cellAt (i * 2) (by omega), h.cellAt (i * 2 + 1) (by omega)]
    exact ⟨h0, h1⟩

/-- zzToRanges: the same ranges; nil stays nil. -/
theorem toRanges_any (v : Value) (L : List (Int × Int)) (w : World) (hl : L.length ≤ 1048576) (hs : Sees w v L) (hv : v = .slice none 0 0 ∨ ∃ a n c, v = .slice (some a) n c) :
    Calls Try.prog 8 #[v] w fun e w' => ∃ v', e = .returned v' ∧ Sees w' v' L ∧ Below w.heap.size w w' := by
  rcases hv with rfl | ⟨a, n, c, rfl⟩
  · refine (toRanges_nil w).mono fun e w' ⟨he, hw⟩ => ⟨_, he, ?_, ?_⟩
    · subst hw; exact hs
    · subst hw; exact Below.refl _ _
  · obtain ⟨ad, cap, hva, h⟩ := hs
    simp only [Value.slice.injEq] at hva
    obtain ⟨rfl, rfl, rfl⟩ := hva
    rcases h with rfl | ⟨b, off, hab, hlt, hat⟩
    · refine (toRanges_empty a c w).mono fun e w' ⟨he, hb⟩ => ⟨_, he, ⟨_, _, rfl, Or.inl rfl⟩, hb⟩
    · simp only [Option.some.injEq] at hab
      subst hab
      exact (toRanges_some b off c L w hl hlt hat).mono fun e w' ⟨he, ho, hb⟩ => ⟨_, he, sees_of_own ho, hb⟩
end Go.Proofs.Qxb6625648a
