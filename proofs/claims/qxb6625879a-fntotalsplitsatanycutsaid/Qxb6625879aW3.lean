/-
  The second law's walk: one theorem a cut.
-/
import Derived.Test.Qxb6625879aW2
import Derived.Deep.QuietTactic
import Derived.BigQuiet
import Derived.Deep.RegionWith
namespace Go.Proofs.Qxb6625879a
open Go.RowKit
set_option maxRecDepth 100000

theorem zzt (b off : Nat) (c0 c1 c2 c3 c4 c5 r : Int) (w : World) (hr : wrap64 (c0 + c1 + c2 + c3 + c4 + c5) = r) (h0 : w.cell? ⟨b, off, none⟩ = some (.int .i64 c0)) (h1 : w.cell? ⟨b, off + 1, none⟩ = some (.int .i64 c1)) (h2 : w.cell? ⟨b, off + 2, none⟩ = some (.int .i64 c2))
    (h3 : w.cell? ⟨b, off + 3, none⟩ = some (.int .i64 c3)) (h4 : w.cell? ⟨b, off + 4, none⟩ = some (.int .i64 c4)) (h5 : w.cell? ⟨b, off + 5, none⟩ = some (.int .i64 c5)) :
    Calls Try.prog 5 #[.pointer (some ⟨b, off, none⟩)] w fun e w' => e = .returned (.int .i64 r) ∧ w' = w := by
  subst hr
  exact zztotal6 b off c0 c1 c2 c3 c4 c5 w h0 h1 h2 h3 h4 h5

set_option maxHeartbeats 400000 in
theorem law4_nil (k : Int) (w : World) : Calls Try.prog 4 #[.pointer none, .int .i64 k] w fun e w' => e = .returned (.bool true) ∧ Below w.heap.size w w' := by
  go_enter Try.func4, Try.ntmps4
  go_wp2
  go_ret
  exact ⟨rfl, Below.refl _ _⟩

set_option maxHeartbeats 400000 in
theorem law4_low (a : Addr) (k : Int) (w : World) (hi : k < 0) : Calls Try.prog 4 #[.pointer (some a), .int .i64 k] w fun e w' => e = .returned (.bool true) ∧ Below w.heap.size w w' := by
  go_enter Try.func4, Try.ntmps4
  go_wp2
  go_ret
  exact ⟨rfl, Below.refl _ _⟩

set_option maxHeartbeats 400000 in
theorem law4_high (a : Addr) (k : Int) (w : World) (hi : 6 < k) : Calls Try.prog 4 #[.pointer (some a), .int .i64 k] w fun e w' => e = .returned (.bool true) ∧ Below w.heap.size w w' := by
  go_enter Try.func4, Try.ntmps4
  go_wp2
  go_ret
  exact ⟨rfl, Below.refl _ _⟩

theorem split0 (c0 c1 c2 c3 c4 c5 : Int) : wrap64 (wrap64 (0 + 0 + 0 + 0 + 0 + 0) + wrap64 (c0 + c1 + c2 + c3 + c4 + c5)) = wrap64 (c0 + c1 + c2 + c3 + c4 + c5) := by unfold wrap64; omega
theorem only0 (c0 : Int) (hd : -9223372036854775808 ≤ c0 ∧ c0 ≤ 9223372036854775807) : wrap64 (c0 + 0 + 0 + 0 + 0 + 0) = c0 := by unfold wrap64; omega

set_option maxHeartbeats 2000000 in
theorem law4_at0 (b off : Nat) (c0 c1 c2 c3 c4 c5 : Int) (w : World) (hd : -9223372036854775808 ≤ c0 ∧ c0 ≤ 9223372036854775807) (h0 : w.cell? ⟨b, off, none⟩ = some (.int .i64 c0)) (h1 : w.cell? ⟨b, off + 1, none⟩ = some (.int .i64 c1)) (h2 : w.cell? ⟨b, off + 2, none⟩ = some (.int .i64 c2))
    (h3 : w.cell? ⟨b, off + 3, none⟩ = some (.int .i64 c3)) (h4 : w.cell? ⟨b, off + 4, none⟩ = some (.int .i64 c4)) (h5 : w.cell? ⟨b, off + 5, none⟩ = some (.int .i64 c5)) :
    Calls Try.prog 4 #[.pointer (some ⟨b, off, none⟩), .int .i64 0] w fun e w' => e = .returned (.bool true) ∧ Below w.heap.size w w' := by
  have HO : Hid (wrap64 (c0 + 0 + 0 + 0 + 0 + 0) = c0) := only0 c0 hd
  have HR : wrap64 (c5 + c4 + c3 + c2 + c1 + c0) = wrap64 (c0 + c1 + c2 + c3 + c4 + c5) := by congr 1; omega
  obtain ⟨A, hA⟩ : ∃ A, wrap64 (0 + 0 + 0 + 0 + 0 + 0) = A := ⟨_, rfl⟩
  obtain ⟨B, hB⟩ : ∃ B, wrap64 (c0 + c1 + c2 + c3 + c4 + c5) = B := ⟨_, rfl⟩
  obtain ⟨S, hS⟩ : ∃ S, wrap64 (c0 + c1 + c2 + c3 + c4 + c5) = S := ⟨_, rfl⟩
  have E : wrap64 (A + B) = S := by subst hA hB hS; exact split0 c0 c1 c2 c3 c4 c5
  rw [hS] at HR
  have HA : Hid (wrap64 (0 + 0 + 0 + 0 + 0 + 0) = A) := hA
  have HB : Hid (wrap64 (c0 + c1 + c2 + c3 + c4 + c5) = B) := hB
  have HS : Hid (wrap64 (c0 + c1 + c2 + c3 + c4 + c5) = S) := hS
  have HV : Hid (wrap64 (c5 + c4 + c3 + c2 + c1 + c0) = S) := HR
  clear hd hA hB hS HR
  have hz0 : b < w.heap.size := World.block_lt_of_cell? _ _ h0
  have hz1 : b < w.heap.size + 1 := by omega
  have hz2 : b < w.heap.size + 1 + 1 := by omega
  have hz3 : b < w.heap.size + 1 + 1 + 1 := by omega
  go_enter Try.func4, Try.ntmps4
  go_wp2
  refine wp_loop_rounds 7 ?_
  rw [rounds_succ]
  go_wp2
  rw [rounds_succ]
  go_wp2
  rw [rounds_succ]
  go_wp2
  rw [rounds_succ]
  go_wp2
  rw [rounds_succ]
  go_wp2
  rw [rounds_succ]
  go_wp2
  rw [rounds_succ]
  go_wp2_with fail
  refine (zzt b off c0 c1 c2 c3 c4 c5 S _ HS.out ?_ ?_ ?_ ?_ ?_ ?_).mono ?_
  · exact cell_alloc _ (cell_alloc _ (cell_alloc _ (cell_alloc _ h0)))
  · exact cell_alloc _ (cell_alloc _ (cell_alloc _ (cell_alloc _ h1)))
  · exact cell_alloc _ (cell_alloc _ (cell_alloc _ (cell_alloc _ h2)))
  · exact cell_alloc _ (cell_alloc _ (cell_alloc _ (cell_alloc _ h3)))
  · exact cell_alloc _ (cell_alloc _ (cell_alloc _ (cell_alloc _ h4)))
  · exact cell_alloc _ (cell_alloc _ (cell_alloc _ (cell_alloc _ h5)))
  rintro e w' ⟨rfl, rfl⟩
  go_wp2_with fail
  go_quiet (first | (go_at_call_of 5 (Value.pointer (some ⟨w.heap.size, 0, none⟩)); exact (zzt (w.heap.size) 0 0 0 0 0 0 0 _ _ HA.out (by go_simp) (by go_simp) (by go_simp) (by go_simp) (by go_simp) (by go_simp)).mono fun _ _ ⟨he, hm⟩ => ⟨he, _, hm⟩) | (go_at_call_of 5 (Value.pointer (some ⟨(@HAdd.hAdd Nat Nat Nat (@instHAdd Nat instAddNat) w.heap.size 1), 0, none⟩)); exact (zzt (w.heap.size + 1) 0 c0 c1 c2 c3 c4 c5 _ _ HB.out (by go_simp) (by go_simp) (by go_simp) (by go_simp) (by go_simp) (by go_simp)).mono fun _ _ ⟨he, hm⟩ => ⟨he, _, hm⟩) | (go_at_call_of 5 (Value.pointer (some ⟨(@HAdd.hAdd Nat Nat Nat (@instHAdd Nat instAddNat) (@HAdd.hAdd Nat Nat Nat (@instHAdd Nat instAddNat) w.heap.size 1) 1), 0, none⟩)); exact (zzt (w.heap.size + 1 + 1) 0 c5 c4 c3 c2 c1 c0 _ _ HV.out (by go_simp) (by go_simp) (by go_simp) (by go_simp) (by go_simp) (by go_simp)).mono fun _ _ ⟨he, hm⟩ => ⟨he, _, hm⟩) | (go_at_call_of 5 (Value.pointer (some ⟨(@HAdd.hAdd Nat Nat Nat (@instHAdd Nat instAddNat) (@HAdd.hAdd Nat Nat Nat (@instHAdd Nat instAddNat) (@HAdd.hAdd Nat Nat Nat (@instHAdd Nat instAddNat) w.heap.size 1) 1) 1), 0, none⟩)); exact (zzt (w.heap.size + 1 + 1 + 1) 0 c0 0 0 0 0 0 _ _ HO.out (by go_simp) (by go_simp) (by go_simp) (by go_simp) (by go_simp) (by go_simp)).mono fun _ _ ⟨he, hm⟩ => ⟨he, _, hm⟩))
  go_wp2
  go_ret
  exact ⟨rfl, below_drewN ((((((Below.refl _ w).alloc (Nat.le_refl _) _).alloc (by simp) _).alloc (by simp; omega) _).alloc (by simp; omega) _)) _⟩

theorem split1 (c0 c1 c2 c3 c4 c5 : Int) : wrap64 (wrap64 (c0 + 0 + 0 + 0 + 0 + 0) + wrap64 (0 + c1 + c2 + c3 + c4 + c5)) = wrap64 (c0 + c1 + c2 + c3 + c4 + c5) := by unfold wrap64; omega
theorem only1 (c1 : Int) (hd : -9223372036854775808 ≤ c1 ∧ c1 ≤ 9223372036854775807) : wrap64 (0 + c1 + 0 + 0 + 0 + 0) = c1 := by unfold wrap64; omega

set_option maxHeartbeats 2000000 in
theorem law4_at1 (b off : Nat) (c0 c1 c2 c3 c4 c5 : Int) (w : World) (hd : -9223372036854775808 ≤ c1 ∧ c1 ≤ 9223372036854775807) (h0 : w.cell? ⟨b, off, none⟩ = some (.int .i64 c0)) (h1 : w.cell? ⟨b, off + 1, none⟩ = some (.int .i64 c1)) (h2 : w.cell? ⟨b, off + 2, none⟩ = some (.int .i64 c2))
    (h3 : w.cell? ⟨b, off + 3, none⟩ = some (.int .i64 c3)) (h4 : w.cell? ⟨b, off + 4, none⟩ = some (.int .i64 c4)) (h5 : w.cell? ⟨b, off + 5, none⟩ = some (.int .i64 c5)) :
    Calls Try.prog 4 #[.pointer (some ⟨b, off, none⟩), .int .i64 1] w fun e w' => e = .returned (.bool true) ∧ Below w.heap.size w w' := by
  have HO : Hid (wrap64 (0 + c1 + 0 + 0 + 0 + 0) = c1) := only1 c1 hd
  have HR : wrap64 (c5 + c4 + c3 + c2 + c1 + c0) = wrap64 (c0 + c1 + c2 + c3 + c4 + c5) := by congr 1; omega
  obtain ⟨A, hA⟩ : ∃ A, wrap64 (c0 + 0 + 0 + 0 + 0 + 0) = A := ⟨_, rfl⟩
  obtain ⟨B, hB⟩ : ∃ B, wrap64 (0 + c1 + c2 + c3 + c4 + c5) = B := ⟨_, rfl⟩
  obtain ⟨S, hS⟩ : ∃ S, wrap64 (c0 + c1 + c2 + c3 + c4 + c5) = S := ⟨_, rfl⟩
  have E : wrap64 (A + B) = S := by subst hA hB hS; exact split1 c0 c1 c2 c3 c4 c5
  rw [hS] at HR
  have HA : Hid (wrap64 (c0 + 0 + 0 + 0 + 0 + 0) = A) := hA
  have HB : Hid (wrap64 (0 + c1 + c2 + c3 + c4 + c5) = B) := hB
  have HS : Hid (wrap64 (c0 + c1 + c2 + c3 + c4 + c5) = S) := hS
  have HV : Hid (wrap64 (c5 + c4 + c3 + c2 + c1 + c0) = S) := HR
  clear hd hA hB hS HR
  have hz0 : b < w.heap.size := World.block_lt_of_cell? _ _ h0
  have hz1 : b < w.heap.size + 1 := by omega
  have hz2 : b < w.heap.size + 1 + 1 := by omega
  have hz3 : b < w.heap.size + 1 + 1 + 1 := by omega
  go_enter Try.func4, Try.ntmps4
  go_wp2
  refine wp_loop_rounds 7 ?_
  rw [rounds_succ]
  go_wp2
  rw [rounds_succ]
  go_wp2
  rw [rounds_succ]
  go_wp2
  rw [rounds_succ]
  go_wp2
  rw [rounds_succ]
  go_wp2
  rw [rounds_succ]
  go_wp2
  rw [rounds_succ]
  go_wp2_with fail
  refine (zzt b off c0 c1 c2 c3 c4 c5 S _ HS.out ?_ ?_ ?_ ?_ ?_ ?_).mono ?_
  · exact cell_alloc _ (cell_alloc _ (cell_alloc _ (cell_alloc _ h0)))
  · exact cell_alloc _ (cell_alloc _ (cell_alloc _ (cell_alloc _ h1)))
  · exact cell_alloc _ (cell_alloc _ (cell_alloc _ (cell_alloc _ h2)))
  · exact cell_alloc _ (cell_alloc _ (cell_alloc _ (cell_alloc _ h3)))
  · exact cell_alloc _ (cell_alloc _ (cell_alloc _ (cell_alloc _ h4)))
  · exact cell_alloc _ (cell_alloc _ (cell_alloc _ (cell_alloc _ h5)))
  rintro e w' ⟨rfl, rfl⟩
  go_wp2_with fail
  go_quiet (first | (go_at_call_of 5 (Value.pointer (some ⟨w.heap.size, 0, none⟩)); exact (zzt (w.heap.size) 0 c0 0 0 0 0 0 _ _ HA.out (by go_simp) (by go_simp) (by go_simp) (by go_simp) (by go_simp) (by go_simp)).mono fun _ _ ⟨he, hm⟩ => ⟨he, _, hm⟩) | (go_at_call_of 5 (Value.pointer (some ⟨(@HAdd.hAdd Nat Nat Nat (@instHAdd Nat instAddNat) w.heap.size 1), 0, none⟩)); exact (zzt (w.heap.size + 1) 0 0 c1 c2 c3 c4 c5 _ _ HB.out (by go_simp) (by go_simp) (by go_simp) (by go_simp) (by go_simp) (by go_simp)).mono fun _ _ ⟨he, hm⟩ => ⟨he, _, hm⟩) | (go_at_call_of 5 (Value.pointer (some ⟨(@HAdd.hAdd Nat Nat Nat (@instHAdd Nat instAddNat) (@HAdd.hAdd Nat Nat Nat (@instHAdd Nat instAddNat) w.heap.size 1) 1), 0, none⟩)); exact (zzt (w.heap.size + 1 + 1) 0 c5 c4 c3 c2 c1 c0 _ _ HV.out (by go_simp) (by go_simp) (by go_simp) (by go_simp) (by go_simp) (by go_simp)).mono fun _ _ ⟨he, hm⟩ => ⟨he, _, hm⟩) | (go_at_call_of 5 (Value.pointer (some ⟨(@HAdd.hAdd Nat Nat Nat (@instHAdd Nat instAddNat) (@HAdd.hAdd Nat Nat Nat (@instHAdd Nat instAddNat) (@HAdd.hAdd Nat Nat Nat (@instHAdd Nat instAddNat) w.heap.size 1) 1) 1), 0, none⟩)); exact (zzt (w.heap.size + 1 + 1 + 1) 0 0 c1 0 0 0 0 _ _ HO.out (by go_simp) (by go_simp) (by go_simp) (by go_simp) (by go_simp) (by go_simp)).mono fun _ _ ⟨he, hm⟩ => ⟨he, _, hm⟩))
  go_wp2
  go_ret
  exact ⟨rfl, below_drewN ((((((Below.refl _ w).alloc (Nat.le_refl _) _).alloc (by simp) _).alloc (by simp; omega) _).alloc (by simp; omega) _)) _⟩

theorem split2 (c0 c1 c2 c3 c4 c5 : Int) : wrap64 (wrap64 (c0 + c1 + 0 + 0 + 0 + 0) + wrap64 (0 + 0 + c2 + c3 + c4 + c5)) = wrap64 (c0 + c1 + c2 + c3 + c4 + c5) := by unfold wrap64; omega
theorem only2 (c2 : Int) (hd : -9223372036854775808 ≤ c2 ∧ c2 ≤ 9223372036854775807) : wrap64 (0 + 0 + c2 + 0 + 0 + 0) = c2 := by unfold wrap64; omega

set_option maxHeartbeats 2000000 in
theorem law4_at2 (b off : Nat) (c0 c1 c2 c3 c4 c5 : Int) (w : World) (hd : -9223372036854775808 ≤ c2 ∧ c2 ≤ 9223372036854775807) (h0 : w.cell? ⟨b, off, none⟩ = some (.int .i64 c0)) (h1 : w.cell? ⟨b, off + 1, none⟩ = some (.int .i64 c1)) (h2 : w.cell? ⟨b, off + 2, none⟩ = some (.int .i64 c2))
    (h3 : w.cell? ⟨b, off + 3, none⟩ = some (.int .i64 c3)) (h4 : w.cell? ⟨b, off + 4, none⟩ = some (.int .i64 c4)) (h5 : w.cell? ⟨b, off + 5, none⟩ = some (.int .i64 c5)) :
    Calls Try.prog 4 #[.pointer (some ⟨b, off, none⟩), .int .i64 2] w fun e w' => e = .returned (.bool true) ∧ Below w.heap.size w w' := by
  have HO : Hid (wrap64 (0 + 0 + c2 + 0 + 0 + 0) = c2) := only2 c2 hd
  have HR : wrap64 (c5 + c4 + c3 + c2 + c1 + c0) = wrap64 (c0 + c1 + c2 + c3 + c4 + c5) := by congr 1; omega
  obtain ⟨A, hA⟩ : ∃ A, wrap64 (c0 + c1 + 0 + 0 + 0 + 0) = A := ⟨_, rfl⟩
  obtain ⟨B, hB⟩ : ∃ B, wrap64 (0 + 0 + c2 + c3 + c4 + c5) = B := ⟨_, rfl⟩
  obtain ⟨S, hS⟩ : ∃ S, wrap64 (c0 + c1 + c2 + c3 + c4 + c5) = S := ⟨_, rfl⟩
  have E : wrap64 (A + B) = S := by subst hA hB hS; exact split2 c0 c1 c2 c3 c4 c5
  rw [hS] at HR
  have HA : Hid (wrap64 (c0 + c1 + 0 + 0 + 0 + 0) = A) := hA
  have HB : Hid (wrap64 (0 + 0 + c2 + c3 + c4 + c5) = B) := hB
  have HS : Hid (wrap64 (c0 + c1 + c2 + c3 + c4 + c5) = S) := hS
  have HV : Hid (wrap64 (c5 + c4 + c3 + c2 + c1 + c0) = S) := HR
  clear hd hA hB hS HR
  have hz0 : b < w.heap.size := World.block_lt_of_cell? _ _ h0
  have hz1 : b < w.heap.size + 1 := by omega
  have hz2 : b < w.heap.size + 1 + 1 := by omega
  have hz3 : b < w.heap.size + 1 + 1 + 1 := by omega
  go_enter Try.func4, Try.ntmps4
  go_wp2
  refine wp_loop_rounds 7 ?_
  rw [rounds_succ]
  go_wp2
  rw [rounds_succ]
  go_wp2
  rw [rounds_succ]
  go_wp2
  rw [rounds_succ]
  go_wp2
  rw [rounds_succ]
  go_wp2
  rw [rounds_succ]
  go_wp2
  rw [rounds_succ]
  go_wp2_with fail
  refine (zzt b off c0 c1 c2 c3 c4 c5 S _ HS.out ?_ ?_ ?_ ?_ ?_ ?_).mono ?_
  · exact cell_alloc _ (cell_alloc _ (cell_alloc _ (cell_alloc _ h0)))
  · exact cell_alloc _ (cell_alloc _ (cell_alloc _ (cell_alloc _ h1)))
  · exact cell_alloc _ (cell_alloc _ (cell_alloc _ (cell_alloc _ h2)))
  · exact cell_alloc _ (cell_alloc _ (cell_alloc _ (cell_alloc _ h3)))
  · exact cell_alloc _ (cell_alloc _ (cell_alloc _ (cell_alloc _ h4)))
  · exact cell_alloc _ (cell_alloc _ (cell_alloc _ (cell_alloc _ h5)))
  rintro e w' ⟨rfl, rfl⟩
  go_wp2_with fail
  go_quiet (first | (go_at_call_of 5 (Value.pointer (some ⟨w.heap.size, 0, none⟩)); exact (zzt (w.heap.size) 0 c0 c1 0 0 0 0 _ _ HA.out (by go_simp) (by go_simp) (by go_simp) (by go_simp) (by go_simp) (by go_simp)).mono fun _ _ ⟨he, hm⟩ => ⟨he, _, hm⟩) | (go_at_call_of 5 (Value.pointer (some ⟨(@HAdd.hAdd Nat Nat Nat (@instHAdd Nat instAddNat) w.heap.size 1), 0, none⟩)); exact (zzt (w.heap.size + 1) 0 0 0 c2 c3 c4 c5 _ _ HB.out (by go_simp) (by go_simp) (by go_simp) (by go_simp) (by go_simp) (by go_simp)).mono fun _ _ ⟨he, hm⟩ => ⟨he, _, hm⟩) | (go_at_call_of 5 (Value.pointer (some ⟨(@HAdd.hAdd Nat Nat Nat (@instHAdd Nat instAddNat) (@HAdd.hAdd Nat Nat Nat (@instHAdd Nat instAddNat) w.heap.size 1) 1), 0, none⟩)); exact (zzt (w.heap.size + 1 + 1) 0 c5 c4 c3 c2 c1 c0 _ _ HV.out (by go_simp) (by go_simp) (by go_simp) (by go_simp) (by go_simp) (by go_simp)).mono fun _ _ ⟨he, hm⟩ => ⟨he, _, hm⟩) | (go_at_call_of 5 (Value.pointer (some ⟨(@HAdd.hAdd Nat Nat Nat (@instHAdd Nat instAddNat) (@HAdd.hAdd Nat Nat Nat (@instHAdd Nat instAddNat) (@HAdd.hAdd Nat Nat Nat (@instHAdd Nat instAddNat) w.heap.size 1) 1) 1), 0, none⟩)); exact (zzt (w.heap.size + 1 + 1 + 1) 0 0 0 c2 0 0 0 _ _ HO.out (by go_simp) (by go_simp) (by go_simp) (by go_simp) (by go_simp) (by go_simp)).mono fun _ _ ⟨he, hm⟩ => ⟨he, _, hm⟩))
  go_wp2
  go_ret
  exact ⟨rfl, below_drewN ((((((Below.refl _ w).alloc (Nat.le_refl _) _).alloc (by simp) _).alloc (by simp; omega) _).alloc (by simp; omega) _)) _⟩

theorem split3 (c0 c1 c2 c3 c4 c5 : Int) : wrap64 (wrap64 (c0 + c1 + c2 + 0 + 0 + 0) + wrap64 (0 + 0 + 0 + c3 + c4 + c5)) = wrap64 (c0 + c1 + c2 + c3 + c4 + c5) := by unfold wrap64; omega
theorem only3 (c3 : Int) (hd : -9223372036854775808 ≤ c3 ∧ c3 ≤ 9223372036854775807) : wrap64 (0 + 0 + 0 + c3 + 0 + 0) = c3 := by unfold wrap64; omega

set_option maxHeartbeats 2000000 in
theorem law4_at3 (b off : Nat) (c0 c1 c2 c3 c4 c5 : Int) (w : World) (hd : -9223372036854775808 ≤ c3 ∧ c3 ≤ 9223372036854775807) (h0 : w.cell? ⟨b, off, none⟩ = some (.int .i64 c0)) (h1 : w.cell? ⟨b, off + 1, none⟩ = some (.int .i64 c1)) (h2 : w.cell? ⟨b, off + 2, none⟩ = some (.int .i64 c2))
    (h3 : w.cell? ⟨b, off + 3, none⟩ = some (.int .i64 c3)) (h4 : w.cell? ⟨b, off + 4, none⟩ = some (.int .i64 c4)) (h5 : w.cell? ⟨b, off + 5, none⟩ = some (.int .i64 c5)) :
    Calls Try.prog 4 #[.pointer (some ⟨b, off, none⟩), .int .i64 3] w fun e w' => e = .returned (.bool true) ∧ Below w.heap.size w w' := by
  have HO : Hid (wrap64 (0 + 0 + 0 + c3 + 0 + 0) = c3) := only3 c3 hd
  have HR : wrap64 (c5 + c4 + c3 + c2 + c1 + c0) = wrap64 (c0 + c1 + c2 + c3 + c4 + c5) := by congr 1; omega
  obtain ⟨A, hA⟩ : ∃ A, wrap64 (c0 + c1 + c2 + 0 + 0 + 0) = A := ⟨_, rfl⟩
  obtain ⟨B, hB⟩ : ∃ B, wrap64 (0 + 0 + 0 + c3 + c4 + c5) = B := ⟨_, rfl⟩
  obtain ⟨S, hS⟩ : ∃ S, wrap64 (c0 + c1 + c2 + c3 + c4 + c5) = S := ⟨_, rfl⟩
  have E : wrap64 (A + B) = S := by subst hA hB hS; exact split3 c0 c1 c2 c3 c4 c5
  rw [hS] at HR
  have HA : Hid (wrap64 (c0 + c1 + c2 + 0 + 0 + 0) = A) := hA
  have HB : Hid (wrap64 (0 + 0 + 0 + c3 + c4 + c5) = B) := hB
  have HS : Hid (wrap64 (c0 + c1 + c2 + c3 + c4 + c5) = S) := hS
  have HV : Hid (wrap64 (c5 + c4 + c3 + c2 + c1 + c0) = S) := HR
  clear hd hA hB hS HR
  have hz0 : b < w.heap.size := World.block_lt_of_cell? _ _ h0
  have hz1 : b < w.heap.size + 1 := by omega
  have hz2 : b < w.heap.size + 1 + 1 := by omega
  have hz3 : b < w.heap.size + 1 + 1 + 1 := by omega
  go_enter Try.func4, Try.ntmps4
  go_wp2
  refine wp_loop_rounds 7 ?_
  rw [rounds_succ]
  go_wp2
  rw [rounds_succ]
  go_wp2
  rw [rounds_succ]
  go_wp2
  rw [rounds_succ]
  go_wp2
  rw [rounds_succ]
  go_wp2
  rw [rounds_succ]
  go_wp2
  rw [rounds_succ]
  go_wp2_with fail
  refine (zzt b off c0 c1 c2 c3 c4 c5 S _ HS.out ?_ ?_ ?_ ?_ ?_ ?_).mono ?_
  · exact cell_alloc _ (cell_alloc _ (cell_alloc _ (cell_alloc _ h0)))
  · exact cell_alloc _ (cell_alloc _ (cell_alloc _ (cell_alloc _ h1)))
  · exact cell_alloc _ (cell_alloc _ (cell_alloc _ (cell_alloc _ h2)))
  · exact cell_alloc _ (cell_alloc _ (cell_alloc _ (cell_alloc _ h3)))
  · exact cell_alloc _ (cell_alloc _ (cell_alloc _ (cell_alloc _ h4)))
  · exact cell_alloc _ (cell_alloc _ (cell_alloc _ (cell_alloc _ h5)))
  rintro e w' ⟨rfl, rfl⟩
  go_wp2_with fail
  go_quiet (first | (go_at_call_of 5 (Value.pointer (some ⟨w.heap.size, 0, none⟩)); exact (zzt (w.heap.size) 0 c0 c1 c2 0 0 0 _ _ HA.out (by go_simp) (by go_simp) (by go_simp) (by go_simp) (by go_simp) (by go_simp)).mono fun _ _ ⟨he, hm⟩ => ⟨he, _, hm⟩) | (go_at_call_of 5 (Value.pointer (some ⟨(@HAdd.hAdd Nat Nat Nat (@instHAdd Nat instAddNat) w.heap.size 1), 0, none⟩)); exact (zzt (w.heap.size + 1) 0 0 0 0 c3 c4 c5 _ _ HB.out (by go_simp) (by go_simp) (by go_simp) (by go_simp) (by go_simp) (by go_simp)).mono fun _ _ ⟨he, hm⟩ => ⟨he, _, hm⟩) | (go_at_call_of 5 (Value.pointer (some ⟨(@HAdd.hAdd Nat Nat Nat (@instHAdd Nat instAddNat) (@HAdd.hAdd Nat Nat Nat (@instHAdd Nat instAddNat) w.heap.size 1) 1), 0, none⟩)); exact (zzt (w.heap.size + 1 + 1) 0 c5 c4 c3 c2 c1 c0 _ _ HV.out (by go_simp) (by go_simp) (by go_simp) (by go_simp) (by go_simp) (by go_simp)).mono fun _ _ ⟨he, hm⟩ => ⟨he, _, hm⟩) | (go_at_call_of 5 (Value.pointer (some ⟨(@HAdd.hAdd Nat Nat Nat (@instHAdd Nat instAddNat) (@HAdd.hAdd Nat Nat Nat (@instHAdd Nat instAddNat) (@HAdd.hAdd Nat Nat Nat (@instHAdd Nat instAddNat) w.heap.size 1) 1) 1), 0, none⟩)); exact (zzt (w.heap.size + 1 + 1 + 1) 0 0 0 0 c3 0 0 _ _ HO.out (by go_simp) (by go_simp) (by go_simp) (by go_simp) (by go_simp) (by go_simp)).mono fun _ _ ⟨he, hm⟩ => ⟨he, _, hm⟩))
  go_wp2
  go_ret
  exact ⟨rfl, below_drewN ((((((Below.refl _ w).alloc (Nat.le_refl _) _).alloc (by simp) _).alloc (by simp; omega) _).alloc (by simp; omega) _)) _⟩

theorem split4 (c0 c1 c2 c3 c4 c5 : Int) : wrap64 (wrap64 (c0 + c1 + c2 + c3 + 0 + 0) + wrap64 (0 + 0 + 0 + 0 + c4 + c5)) = wrap64 (c0 + c1 + c2 + c3 + c4 + c5) := by unfold wrap64; omega
theorem only4 (c4 : Int) (hd : -9223372036854775808 ≤ c4 ∧ c4 ≤ 9223372036854775807) : wrap64 (0 + 0 + 0 + 0 + c4 + 0) = c4 := by unfold wrap64; omega

set_option maxHeartbeats 2000000 in
theorem law4_at4 (b off : Nat) (c0 c1 c2 c3 c4 c5 : Int) (w : World) (hd : -9223372036854775808 ≤ c4 ∧ c4 ≤ 9223372036854775807) (h0 : w.cell? ⟨b, off, none⟩ = some (.int .i64 c0)) (h1 : w.cell? ⟨b, off + 1, none⟩ = some (.int .i64 c1)) (h2 : w.cell? ⟨b, off + 2, none⟩ = some (.int .i64 c2))
    (h3 : w.cell? ⟨b, off + 3, none⟩ = some (.int .i64 c3)) (h4 : w.cell? ⟨b, off + 4, none⟩ = some (.int .i64 c4)) (h5 : w.cell? ⟨b, off + 5, none⟩ = some (.int .i64 c5)) :
    Calls Try.prog 4 #[.pointer (some ⟨b, off, none⟩), .int .i64 4] w fun e w' => e = .returned (.bool true) ∧ Below w.heap.size w w' := by
  have HO : Hid (wrap64 (0 + 0 + 0 + 0 + c4 + 0) = c4) := only4 c4 hd
  have HR : wrap64 (c5 + c4 + c3 + c2 + c1 + c0) = wrap64 (c0 + c1 + c2 + c3 + c4 + c5) := by congr 1; omega
  obtain ⟨A, hA⟩ : ∃ A, wrap64 (c0 + c1 + c2 + c3 + 0 + 0) = A := ⟨_, rfl⟩
  obtain ⟨B, hB⟩ : ∃ B, wrap64 (0 + 0 + 0 + 0 + c4 + c5) = B := ⟨_, rfl⟩
  obtain ⟨S, hS⟩ : ∃ S, wrap64 (c0 + c1 + c2 + c3 + c4 + c5) = S := ⟨_, rfl⟩
  have E : wrap64 (A + B) = S := by subst hA hB hS; exact split4 c0 c1 c2 c3 c4 c5
  rw [hS] at HR
  have HA : Hid (wrap64 (c0 + c1 + c2 + c3 + 0 + 0) = A) := hA
  have HB : Hid (wrap64 (0 + 0 + 0 + 0 + c4 + c5) = B) := hB
  have HS : Hid (wrap64 (c0 + c1 + c2 + c3 + c4 + c5) = S) := hS
  have HV : Hid (wrap64 (c5 + c4 + c3 + c2 + c1 + c0) = S) := HR
  clear hd hA hB hS HR
  have hz0 : b < w.heap.size := World.block_lt_of_cell? _ _ h0
  have hz1 : b < w.heap.size + 1 := by omega
  have hz2 : b < w.heap.size + 1 + 1 := by omega
  have hz3 : b < w.heap.size + 1 + 1 + 1 := by omega
  go_enter Try.func4, Try.ntmps4
  go_wp2
  refine wp_loop_rounds 7 ?_
  rw [rounds_succ]
  go_wp2
  rw [rounds_succ]
  go_wp2
  rw [rounds_succ]
  go_wp2
  rw [rounds_succ]
  go_wp2
  rw [rounds_succ]
  go_wp2
  rw [rounds_succ]
  go_wp2
  rw [rounds_succ]
  go_wp2_with fail
  refine (zzt b off c0 c1 c2 c3 c4 c5 S _ HS.out ?_ ?_ ?_ ?_ ?_ ?_).mono ?_
  · exact cell_alloc _ (cell_alloc _ (cell_alloc _ (cell_alloc _ h0)))
  · exact cell_alloc _ (cell_alloc _ (cell_alloc _ (cell_alloc _ h1)))
  · exact cell_alloc _ (cell_alloc _ (cell_alloc _ (cell_alloc _ h2)))
  · exact cell_alloc _ (cell_alloc _ (cell_alloc _ (cell_alloc _ h3)))
  · exact cell_alloc _ (cell_alloc _ (cell_alloc _ (cell_alloc _ h4)))
  · exact cell_alloc _ (cell_alloc _ (cell_alloc _ (cell_alloc _ h5)))
  rintro e w' ⟨rfl, rfl⟩
  go_wp2_with fail
  go_quiet (first | (go_at_call_of 5 (Value.pointer (some ⟨w.heap.size, 0, none⟩)); exact (zzt (w.heap.size) 0 c0 c1 c2 c3 0 0 _ _ HA.out (by go_simp) (by go_simp) (by go_simp) (by go_simp) (by go_simp) (by go_simp)).mono fun _ _ ⟨he, hm⟩ => ⟨he, _, hm⟩) | (go_at_call_of 5 (Value.pointer (some ⟨(@HAdd.hAdd Nat Nat Nat (@instHAdd Nat instAddNat) w.heap.size 1), 0, none⟩)); exact (zzt (w.heap.size + 1) 0 0 0 0 0 c4 c5 _ _ HB.out (by go_simp) (by go_simp) (by go_simp) (by go_simp) (by go_simp) (by go_simp)).mono fun _ _ ⟨he, hm⟩ => ⟨he, _, hm⟩) | (go_at_call_of 5 (Value.pointer (some ⟨(@HAdd.hAdd Nat Nat Nat (@instHAdd Nat instAddNat) (@HAdd.hAdd Nat Nat Nat (@instHAdd Nat instAddNat) w.heap.size 1) 1), 0, none⟩)); exact (zzt (w.heap.size + 1 + 1) 0 c5 c4 c3 c2 c1 c0 _ _ HV.out (by go_simp) (by go_simp) (by go_simp) (by go_simp) (by go_simp) (by go_simp)).mono fun _ _ ⟨he, hm⟩ => ⟨he, _, hm⟩) | (go_at_call_of 5 (Value.pointer (some ⟨(@HAdd.hAdd Nat Nat Nat (@instHAdd Nat instAddNat) (@HAdd.hAdd Nat Nat Nat (@instHAdd Nat instAddNat) (@HAdd.hAdd Nat Nat Nat (@instHAdd Nat instAddNat) w.heap.size 1) 1) 1), 0, none⟩)); exact (zzt (w.heap.size + 1 + 1 + 1) 0 0 0 0 0 c4 0 _ _ HO.out (by go_simp) (by go_simp) (by go_simp) (by go_simp) (by go_simp) (by go_simp)).mono fun _ _ ⟨he, hm⟩ => ⟨he, _, hm⟩))
  go_wp2
  go_ret
  exact ⟨rfl, below_drewN ((((((Below.refl _ w).alloc (Nat.le_refl _) _).alloc (by simp) _).alloc (by simp; omega) _).alloc (by simp; omega) _)) _⟩

theorem split5 (c0 c1 c2 c3 c4 c5 : Int) : wrap64 (wrap64 (c0 + c1 + c2 + c3 + c4 + 0) + wrap64 (0 + 0 + 0 + 0 + 0 + c5)) = wrap64 (c0 + c1 + c2 + c3 + c4 + c5) := by unfold wrap64; omega
theorem only5 (c5 : Int) (hd : -9223372036854775808 ≤ c5 ∧ c5 ≤ 9223372036854775807) : wrap64 (0 + 0 + 0 + 0 + 0 + c5) = c5 := by unfold wrap64; omega

set_option maxHeartbeats 2000000 in
theorem law4_at5 (b off : Nat) (c0 c1 c2 c3 c4 c5 : Int) (w : World) (hd : -9223372036854775808 ≤ c5 ∧ c5 ≤ 9223372036854775807) (h0 : w.cell? ⟨b, off, none⟩ = some (.int .i64 c0)) (h1 : w.cell? ⟨b, off + 1, none⟩ = some (.int .i64 c1)) (h2 : w.cell? ⟨b, off + 2, none⟩ = some (.int .i64 c2))
    (h3 : w.cell? ⟨b, off + 3, none⟩ = some (.int .i64 c3)) (h4 : w.cell? ⟨b, off + 4, none⟩ = some (.int .i64 c4)) (h5 : w.cell? ⟨b, off + 5, none⟩ = some (.int .i64 c5)) :
    Calls Try.prog 4 #[.pointer (some ⟨b, off, none⟩), .int .i64 5] w fun e w' => e = .returned (.bool true) ∧ Below w.heap.size w w' := by
  have HO : Hid (wrap64 (0 + 0 + 0 + 0 + 0 + c5) = c5) := only5 c5 hd
  have HR : wrap64 (c5 + c4 + c3 + c2 + c1 + c0) = wrap64 (c0 + c1 + c2 + c3 + c4 + c5) := by congr 1; omega
  obtain ⟨A, hA⟩ : ∃ A, wrap64 (c0 + c1 + c2 + c3 + c4 + 0) = A := ⟨_, rfl⟩
  obtain ⟨B, hB⟩ : ∃ B, wrap64 (0 + 0 + 0 + 0 + 0 + c5) = B := ⟨_, rfl⟩
  obtain ⟨S, hS⟩ : ∃ S, wrap64 (c0 + c1 + c2 + c3 + c4 + c5) = S := ⟨_, rfl⟩
  have E : wrap64 (A + B) = S := by subst hA hB hS; exact split5 c0 c1 c2 c3 c4 c5
  rw [hS] at HR
  have HA : Hid (wrap64 (c0 + c1 + c2 + c3 + c4 + 0) = A) := hA
  have HB : Hid (wrap64 (0 + 0 + 0 + 0 + 0 + c5) = B) := hB
  have HS : Hid (wrap64 (c0 + c1 + c2 + c3 + c4 + c5) = S) := hS
  have HV : Hid (wrap64 (c5 + c4 + c3 + c2 + c1 + c0) = S) := HR
  clear hd hA hB hS HR
  have hz0 : b < w.heap.size := World.block_lt_of_cell? _ _ h0
  have hz1 : b < w.heap.size + 1 := by omega
  have hz2 : b < w.heap.size + 1 + 1 := by omega
  have hz3 : b < w.heap.size + 1 + 1 + 1 := by omega
  go_enter Try.func4, Try.ntmps4
  go_wp2
  refine wp_loop_rounds 7 ?_
  rw [rounds_succ]
  go_wp2
  rw [rounds_succ]
  go_wp2
  rw [rounds_succ]
  go_wp2
  rw [rounds_succ]
  go_wp2
  rw [rounds_succ]
  go_wp2
  rw [rounds_succ]
  go_wp2
  rw [rounds_succ]
  go_wp2_with fail
  refine (zzt b off c0 c1 c2 c3 c4 c5 S _ HS.out ?_ ?_ ?_ ?_ ?_ ?_).mono ?_
  · exact cell_alloc _ (cell_alloc _ (cell_alloc _ (cell_alloc _ h0)))
  · exact cell_alloc _ (cell_alloc _ (cell_alloc _ (cell_alloc _ h1)))
  · exact cell_alloc _ (cell_alloc _ (cell_alloc _ (cell_alloc _ h2)))
  · exact cell_alloc _ (cell_alloc _ (cell_alloc _ (cell_alloc _ h3)))
  · exact cell_alloc _ (cell_alloc _ (cell_alloc _ (cell_alloc _ h4)))
  · exact cell_alloc _ (cell_alloc _ (cell_alloc _ (cell_alloc _ h5)))
  rintro e w' ⟨rfl, rfl⟩
  go_wp2_with fail
  go_quiet (first | (go_at_call_of 5 (Value.pointer (some ⟨w.heap.size, 0, none⟩)); exact (zzt (w.heap.size) 0 c0 c1 c2 c3 c4 0 _ _ HA.out (by go_simp) (by go_simp) (by go_simp) (by go_simp) (by go_simp) (by go_simp)).mono fun _ _ ⟨he, hm⟩ => ⟨he, _, hm⟩) | (go_at_call_of 5 (Value.pointer (some ⟨(@HAdd.hAdd Nat Nat Nat (@instHAdd Nat instAddNat) w.heap.size 1), 0, none⟩)); exact (zzt (w.heap.size + 1) 0 0 0 0 0 0 c5 _ _ HB.out (by go_simp) (by go_simp) (by go_simp) (by go_simp) (by go_simp) (by go_simp)).mono fun _ _ ⟨he, hm⟩ => ⟨he, _, hm⟩) | (go_at_call_of 5 (Value.pointer (some ⟨(@HAdd.hAdd Nat Nat Nat (@instHAdd Nat instAddNat) (@HAdd.hAdd Nat Nat Nat (@instHAdd Nat instAddNat) w.heap.size 1) 1), 0, none⟩)); exact (zzt (w.heap.size + 1 + 1) 0 c5 c4 c3 c2 c1 c0 _ _ HV.out (by go_simp) (by go_simp) (by go_simp) (by go_simp) (by go_simp) (by go_simp)).mono fun _ _ ⟨he, hm⟩ => ⟨he, _, hm⟩) | (go_at_call_of 5 (Value.pointer (some ⟨(@HAdd.hAdd Nat Nat Nat (@instHAdd Nat instAddNat) (@HAdd.hAdd Nat Nat Nat (@instHAdd Nat instAddNat) (@HAdd.hAdd Nat Nat Nat (@instHAdd Nat instAddNat) w.heap.size 1) 1) 1), 0, none⟩)); exact (zzt (w.heap.size + 1 + 1 + 1) 0 0 0 0 0 0 c5 _ _ HO.out (by go_simp) (by go_simp) (by go_simp) (by go_simp) (by go_simp) (by go_simp)).mono fun _ _ ⟨he, hm⟩ => ⟨he, _, hm⟩))
  go_wp2
  go_ret
  exact ⟨rfl, below_drewN ((((((Below.refl _ w).alloc (Nat.le_refl _) _).alloc (by simp) _).alloc (by simp; omega) _).alloc (by simp; omega) _)) _⟩

theorem split6 (c0 c1 c2 c3 c4 c5 : Int) : wrap64 (wrap64 (c0 + c1 + c2 + c3 + c4 + c5) + wrap64 (0 + 0 + 0 + 0 + 0 + 0)) = wrap64 (c0 + c1 + c2 + c3 + c4 + c5) := by unfold wrap64; omega
theorem only6 (c0 : Int) (hd : -9223372036854775808 ≤ c0 ∧ c0 ≤ 9223372036854775807) : wrap64 (c0 + 0 + 0 + 0 + 0 + 0) = c0 := by unfold wrap64; omega

set_option maxHeartbeats 2000000 in
theorem law4_at6 (b off : Nat) (c0 c1 c2 c3 c4 c5 : Int) (w : World) (hd : -9223372036854775808 ≤ c0 ∧ c0 ≤ 9223372036854775807) (h0 : w.cell? ⟨b, off, none⟩ = some (.int .i64 c0)) (h1 : w.cell? ⟨b, off + 1, none⟩ = some (.int .i64 c1)) (h2 : w.cell? ⟨b, off + 2, none⟩ = some (.int .i64 c2))
    (h3 : w.cell? ⟨b, off + 3, none⟩ = some (.int .i64 c3)) (h4 : w.cell? ⟨b, off + 4, none⟩ = some (.int .i64 c4)) (h5 : w.cell? ⟨b, off + 5, none⟩ = some (.int .i64 c5)) :
    Calls Try.prog 4 #[.pointer (some ⟨b, off, none⟩), .int .i64 6] w fun e w' => e = .returned (.bool true) ∧ Below w.heap.size w w' := by
  have HO : Hid (wrap64 (c0 + 0 + 0 + 0 + 0 + 0) = c0) := only6 c0 hd
  have HR : wrap64 (c5 + c4 + c3 + c2 + c1 + c0) = wrap64 (c0 + c1 + c2 + c3 + c4 + c5) := by congr 1; omega
  obtain ⟨A, hA⟩ : ∃ A, wrap64 (c0 + c1 + c2 + c3 + c4 + c5) = A := ⟨_, rfl⟩
  obtain ⟨B, hB⟩ : ∃ B, wrap64 (0 + 0 + 0 + 0 + 0 + 0) = B := ⟨_, rfl⟩
  obtain ⟨S, hS⟩ : ∃ S, wrap64 (c0 + c1 + c2 + c3 + c4 + c5) = S := ⟨_, rfl⟩
  have E : wrap64 (A + B) = S := by subst hA hB hS; exact split6 c0 c1 c2 c3 c4 c5
  rw [hS] at HR
  have HA : Hid (wrap64 (c0 + c1 + c2 + c3 + c4 + c5) = A) := hA
  have HB : Hid (wrap64 (0 + 0 + 0 + 0 + 0 + 0) = B) := hB
  have HS : Hid (wrap64 (c0 + c1 + c2 + c3 + c4 + c5) = S) := hS
  have HV : Hid (wrap64 (c5 + c4 + c3 + c2 + c1 + c0) = S) := HR
  clear hd hA hB hS HR
  have hz0 : b < w.heap.size := World.block_lt_of_cell? _ _ h0
  have hz1 : b < w.heap.size + 1 := by omega
  have hz2 : b < w.heap.size + 1 + 1 := by omega
  have hz3 : b < w.heap.size + 1 + 1 + 1 := by omega
  go_enter Try.func4, Try.ntmps4
  go_wp2
  refine wp_loop_rounds 7 ?_
  rw [rounds_succ]
  go_wp2
  rw [rounds_succ]
  go_wp2
  rw [rounds_succ]
  go_wp2
  rw [rounds_succ]
  go_wp2
  rw [rounds_succ]
  go_wp2
  rw [rounds_succ]
  go_wp2
  rw [rounds_succ]
  go_wp2_with fail
  refine (zzt b off c0 c1 c2 c3 c4 c5 S _ HS.out ?_ ?_ ?_ ?_ ?_ ?_).mono ?_
  · exact cell_alloc _ (cell_alloc _ (cell_alloc _ (cell_alloc _ h0)))
  · exact cell_alloc _ (cell_alloc _ (cell_alloc _ (cell_alloc _ h1)))
  · exact cell_alloc _ (cell_alloc _ (cell_alloc _ (cell_alloc _ h2)))
  · exact cell_alloc _ (cell_alloc _ (cell_alloc _ (cell_alloc _ h3)))
  · exact cell_alloc _ (cell_alloc _ (cell_alloc _ (cell_alloc _ h4)))
  · exact cell_alloc _ (cell_alloc _ (cell_alloc _ (cell_alloc _ h5)))
  rintro e w' ⟨rfl, rfl⟩
  go_wp2_with fail
  go_quiet (first | (go_at_call_of 5 (Value.pointer (some ⟨w.heap.size, 0, none⟩)); exact (zzt (w.heap.size) 0 c0 c1 c2 c3 c4 c5 _ _ HA.out (by go_simp) (by go_simp) (by go_simp) (by go_simp) (by go_simp) (by go_simp)).mono fun _ _ ⟨he, hm⟩ => ⟨he, _, hm⟩) | (go_at_call_of 5 (Value.pointer (some ⟨(@HAdd.hAdd Nat Nat Nat (@instHAdd Nat instAddNat) w.heap.size 1), 0, none⟩)); exact (zzt (w.heap.size + 1) 0 0 0 0 0 0 0 _ _ HB.out (by go_simp) (by go_simp) (by go_simp) (by go_simp) (by go_simp) (by go_simp)).mono fun _ _ ⟨he, hm⟩ => ⟨he, _, hm⟩) | (go_at_call_of 5 (Value.pointer (some ⟨(@HAdd.hAdd Nat Nat Nat (@instHAdd Nat instAddNat) (@HAdd.hAdd Nat Nat Nat (@instHAdd Nat instAddNat) w.heap.size 1) 1), 0, none⟩)); exact (zzt (w.heap.size + 1 + 1) 0 c5 c4 c3 c2 c1 c0 _ _ HV.out (by go_simp) (by go_simp) (by go_simp) (by go_simp) (by go_simp) (by go_simp)).mono fun _ _ ⟨he, hm⟩ => ⟨he, _, hm⟩) | (go_at_call_of 5 (Value.pointer (some ⟨(@HAdd.hAdd Nat Nat Nat (@instHAdd Nat instAddNat) (@HAdd.hAdd Nat Nat Nat (@instHAdd Nat instAddNat) (@HAdd.hAdd Nat Nat Nat (@instHAdd Nat instAddNat) w.heap.size 1) 1) 1), 0, none⟩)); exact (zzt (w.heap.size + 1 + 1 + 1) 0 c0 0 0 0 0 0 _ _ HO.out (by go_simp) (by go_simp) (by go_simp) (by go_simp) (by go_simp) (by go_simp)).mono fun _ _ ⟨he, hm⟩ => ⟨he, _, hm⟩))
  go_wp2
  go_ret
  exact ⟨rfl, below_drewN ((((((Below.refl _ w).alloc (Nat.le_refl _) _).alloc (by simp) _).alloc (by simp; omega) _).alloc (by simp; omega) _)) _⟩
end Go.Proofs.Qxb6625879a
