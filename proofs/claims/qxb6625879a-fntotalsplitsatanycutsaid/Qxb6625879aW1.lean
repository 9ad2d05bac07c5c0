/-
  total: the sum of six numbers, wrapped.
-/
import Derived.Test.Qxb6625879aChecked
import Derived.WalkKit
import Derived.WalkSpells
import Derived.WalkLawsBesides
import Derived.WalkSmall
namespace Go.Proofs.Qxb6625879a
open Go.RowKit

theorem take_succ {α : Type} {L : List α} {k : Nat} {p : α} (h : L[k]? = some p) : L.take (k + 1) = L.take k ++ [p] := by
  rw [List.take_add_one, h]; rfl
theorem wrap_add (a b : Int) : wrap64 (wrap64 a + b) = wrap64 (a + b) := by unfold wrap64; omega
theorem sum_step (cs : List Int) (k : Nat) (hk : k < cs.length) : wrap64 (wrap64 (cs.take k).sum + cs[k]) = wrap64 (cs.take (k + 1)).sum := by
  rw [wrap_add, take_succ (List.getElem?_eq_getElem hk), List.sum_append]
  simp
theorem int_eq {k : IntKind} {a b : Int} (h : a = b) : Value.int k a = .int k b := by rw [h]
theorem ret_int {k : IntKind} {a b : Int} (h : a = b) : Ending.returned (.int k a) = .returned (.int k b) := by rw [h]

set_option maxHeartbeats 400000 in
theorem total_list (b off : Nat) (cs : List Int) (w : World) (hl : cs.length = 6) (hc : ∀ k, k < 6 → w.cell? ⟨b, off + k, none⟩ = some (.int .i64 (cs.getD k 0))) :
    Calls Try.prog 6 #[.pointer (some ⟨b, off, none⟩)] w fun e w' => e = .returned (.int .i64 (wrap64 cs.sum)) ∧ w' = w := by
  go_enter Try.func6, Try.ntmps6
  go_wp2
  go_loop [3, 7] (fun n i => ∃ k : Nat, k ≤ 6 ∧ i = .int .i64 k ∧ n = .int .i64 (wrap64 (cs.take k).sum)) (fun _ i => 6 - (intOf i).toNat)
  case atStart => exact ⟨0, Nat.zero_le _, rfl, int_eq (by simp [wrap64])⟩
  case round =>
    obtain ⟨k, hk, rfl, rfl⟩ := hrel
    by_cases hlt : k < 6
    · have hck := hc k hlt
      have hkl : k < cs.length := by omega
      go_wp2
      go_round
      case rel => exact ⟨k + 1, by omega, by go_num, int_eq (sum_step cs k hkl)⟩
      case measure => simp [intOf]; omega
    · go_wp2
      go_ret
      exact ⟨ret_int (by rw [List.take_of_length_le (by omega)]), rfl⟩

theorem total6 (b off : Nat) (c0 c1 c2 c3 c4 c5 : Int) (w : World) (h0 : w.cell? ⟨b, off, none⟩ = some (.int .i64 c0)) (h1 : w.cell? ⟨b, off + 1, none⟩ = some (.int .i64 c1)) (h2 : w.cell? ⟨b, off + 2, none⟩ = some (.int .i64 c2))
    (h3 : w.cell? ⟨b, off + 3, none⟩ = some (.int .i64 c3)) (h4 : w.cell? ⟨b, off + 4, none⟩ = some (.int .i64 c4)) (h5 : w.cell? ⟨b, off + 5, none⟩ = some (.int .i64 c5)) :
    Calls Try.prog 6 #[.pointer (some ⟨b, off, none⟩)] w fun e w' => e = .returned (.int .i64 (wrap64 (c0 + c1 + c2 + c3 + c4 + c5))) ∧ w' = w := by
  refine (total_list b off [c0, c1, c2, c3, c4, c5] w rfl ?_).mono fun e w' ⟨he, hw⟩ => ⟨?_, hw⟩
  · intro k hk
    match k, hk with
    | 0, _ => exact h0
    | 1, _ => exact h1
    | 2, _ => exact h2
    | 3, _ => exact h3
    | 4, _ => exact h4
    | 5, _ => exact h5
  · rw [he]
    exact ret_int (by simp only [List.sum_cons, List.sum_nil]; congr 1; omega)

set_option maxHeartbeats 400000 in
theorem zztotal6 (b off : Nat) (c0 c1 c2 c3 c4 c5 : Int) (w : World) (h0 : w.cell? ⟨b, off, none⟩ = some (.int .i64 c0)) (h1 : w.cell? ⟨b, off + 1, none⟩ = some (.int .i64 c1)) (h2 : w.cell? ⟨b, off + 2, none⟩ = some (.int .i64 c2))
    (h3 : w.cell? ⟨b, off + 3, none⟩ = some (.int .i64 c3)) (h4 : w.cell? ⟨b, off + 4, none⟩ = some (.int .i64 c4)) (h5 : w.cell? ⟨b, off + 5, none⟩ = some (.int .i64 c5)) :
    Calls Try.prog 5 #[.pointer (some ⟨b, off, none⟩)] w fun e w' => e = .returned (.int .i64 (wrap64 (c0 + c1 + c2 + c3 + c4 + c5))) ∧ w' = w := by
  go_enter Try.func5, Try.ntmps5
  go_wp2_with fail
  refine (total6 b off c0 c1 c2 c3 c4 c5 _ h0 h1 h2 h3 h4 h5).mono ?_
  rintro e w' ⟨rfl, hw⟩
  subst w'
  go_wp2
  go_ret
  exact ⟨rfl, rfl⟩

end Go.Proofs.Qxb6625879a
