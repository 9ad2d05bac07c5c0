/-
  The first law's walk: a slot is shifted by d: one theorem a slot.
-/
import Derived.Test.Qxb6625879aW1
namespace Go.Proofs.Qxb6625879a
open Go.RowKit

theorem cell_alloc {w : World} {a : Addr} {v : Value} (o : Obj) (h : w.cell? a = some v) : (w.alloc o).cell? a = some v := by
  have hlt := World.block_lt_of_cell? _ _ h
  simp only [World.cell?] at h ⊢
  rw [Below.heap_alloc w o a.block hlt]; exact h

set_option maxHeartbeats 400000 in
theorem law3_nil (i d : Int) (w : World) : Calls Try.prog 3 #[.pointer none, .int .i64 i, .int .i64 d] w fun e w' => e = .returned (.bool true) ∧ Below w.heap.size w w' := by
  go_enter Try.func3, Try.ntmps3
  go_wp2
  go_ret
  exact ⟨rfl, Below.refl _ _⟩

set_option maxHeartbeats 400000 in
theorem law3_low (a : Addr) (i d : Int) (w : World) (hi : i < 0) : Calls Try.prog 3 #[.pointer (some a), .int .i64 i, .int .i64 d] w fun e w' => e = .returned (.bool true) ∧ Below w.heap.size w w' := by
  go_enter Try.func3, Try.ntmps3
  go_wp2
  go_ret
  exact ⟨rfl, Below.refl _ _⟩

set_option maxHeartbeats 400000 in
theorem law3_high (a : Addr) (i d : Int) (w : World) (hi : 6 ≤ i) : Calls Try.prog 3 #[.pointer (some a), .int .i64 i, .int .i64 d] w fun e w' => e = .returned (.bool true) ∧ Below w.heap.size w w' := by
  go_enter Try.func3, Try.ntmps3
  go_wp2
  go_ret
  exact ⟨rfl, Below.refl _ _⟩

theorem shift0 (c0 c1 c2 c3 c4 c5 d : Int) : wrap64 (wrap64 (c0 + d) + c1 + c2 + c3 + c4 + c5) = wrap64 (wrap64 (c0 + c1 + c2 + c3 + c4 + c5) + d) := by unfold wrap64; omega
theorem one0 (d : Int) (hd : -9223372036854775808 ≤ d ∧ d ≤ 9223372036854775807) : wrap64 (d + 0 + 0 + 0 + 0 + 0) = d := by unfold wrap64; omega

set_option maxHeartbeats 400000 in
theorem law3_at0 (b off : Nat) (c0 c1 c2 c3 c4 c5 d : Int) (w : World) (hd : -9223372036854775808 ≤ d ∧ d ≤ 9223372036854775807) (h0 : w.cell? ⟨b, off, none⟩ = some (.int .i64 c0)) (h1 : w.cell? ⟨b, off + 1, none⟩ = some (.int .i64 c1)) (h2 : w.cell? ⟨b, off + 2, none⟩ = some (.int .i64 c2))
    (h3 : w.cell? ⟨b, off + 3, none⟩ = some (.int .i64 c3)) (h4 : w.cell? ⟨b, off + 4, none⟩ = some (.int .i64 c4)) (h5 : w.cell? ⟨b, off + 5, none⟩ = some (.int .i64 c5)) :
    Calls Try.prog 3 #[.pointer (some ⟨b, off, none⟩), .int .i64 0, .int .i64 d] w fun e w' => e = .returned (.bool true) ∧ Below w.heap.size w w' := by
  have HS := shift0 c0 c1 c2 c3 c4 c5 d
  have HO := one0 d hd
  have HC := zztotal6 b off c0 c1 c2 c3 c4 c5
  clear hd
  have H1 : Hid (wrap64 (wrap64 (c0 + d) + c1 + c2 + c3 + c4 + c5) = wrap64 (wrap64 (c0 + c1 + c2 + c3 + c4 + c5) + d)) := HS
  have H2 : Hid (wrap64 (d + 0 + 0 + 0 + 0 + 0) = d) := HO
  clear HS HO HC
  go_enter Try.func3, Try.ntmps3
  go_wp2_with fail
  refine (zztotal6 b off c0 c1 c2 c3 c4 c5 _ (cell_alloc _ h0) (cell_alloc _ h1) (cell_alloc _ h2) (cell_alloc _ h3) (cell_alloc _ h4) (cell_alloc _ h5)).mono ?_
  rintro e w' ⟨rfl, rfl⟩
  go_wp2_with fail
  refine (zztotal6 w.heap.size 0 (wrap64 (c0 + d)) c1 c2 c3 c4 c5 _ (by go_simp) (by go_simp) (by go_simp) (by go_simp) (by go_simp) (by go_simp)).mono ?_
  rintro e w' ⟨he, hw⟩
  rw [H1.out] at he
  subst he hw
  go_wp2_with fail
  refine (zztotal6 (w.heap.size + 1) 0 d 0 0 0 0 0 _ (by go_simp) (by go_simp) (by go_simp) (by go_simp) (by go_simp) (by go_simp)).mono ?_
  rintro e w' ⟨he, hw⟩
  rw [H2.out] at he
  subst he hw
  go_wp2
  go_ret
  exact ⟨rfl, ((Below.refl _ w).alloc (Nat.le_refl _) _).alloc (by simp) _⟩

theorem shift1 (c0 c1 c2 c3 c4 c5 d : Int) : wrap64 (c0 + wrap64 (c1 + d) + c2 + c3 + c4 + c5) = wrap64 (wrap64 (c0 + c1 + c2 + c3 + c4 + c5) + d) := by unfold wrap64; omega
theorem one1 (d : Int) (hd : -9223372036854775808 ≤ d ∧ d ≤ 9223372036854775807) : wrap64 (0 + d + 0 + 0 + 0 + 0) = d := by unfold wrap64; omega

set_option maxHeartbeats 400000 in
theorem law3_at1 (b off : Nat) (c0 c1 c2 c3 c4 c5 d : Int) (w : World) (hd : -9223372036854775808 ≤ d ∧ d ≤ 9223372036854775807) (h0 : w.cell? ⟨b, off, none⟩ = some (.int .i64 c0)) (h1 : w.cell? ⟨b, off + 1, none⟩ = some (.int .i64 c1)) (h2 : w.cell? ⟨b, off + 2, none⟩ = some (.int .i64 c2))
    (h3 : w.cell? ⟨b, off + 3, none⟩ = some (.int .i64 c3)) (h4 : w.cell? ⟨b, off + 4, none⟩ = some (.int .i64 c4)) (h5 : w.cell? ⟨b, off + 5, none⟩ = some (.int .i64 c5)) :
    Calls Try.prog 3 #[.pointer (some ⟨b, off, none⟩), .int .i64 1, .int .i64 d] w fun e w' => e = .returned (.bool true) ∧ Below w.heap.size w w' := by
  have HS := shift1 c0 c1 c2 c3 c4 c5 d
  have HO := one1 d hd
  have HC := zztotal6 b off c0 c1 c2 c3 c4 c5
  clear hd
  have H1 : Hid (wrap64 (c0 + wrap64 (c1 + d) + c2 + c3 + c4 + c5) = wrap64 (wrap64 (c0 + c1 + c2 + c3 + c4 + c5) + d)) := HS
  have H2 : Hid (wrap64 (0 + d + 0 + 0 + 0 + 0) = d) := HO
  clear HS HO HC
  go_enter Try.func3, Try.ntmps3
  go_wp2_with fail
  refine (zztotal6 b off c0 c1 c2 c3 c4 c5 _ (cell_alloc _ h0) (cell_alloc _ h1) (cell_alloc _ h2) (cell_alloc _ h3) (cell_alloc _ h4) (cell_alloc _ h5)).mono ?_
  rintro e w' ⟨rfl, rfl⟩
  go_wp2_with fail
  refine (zztotal6 w.heap.size 0 c0 (wrap64 (c1 + d)) c2 c3 c4 c5 _ (by go_simp) (by go_simp) (by go_simp) (by go_simp) (by go_simp) (by go_simp)).mono ?_
  rintro e w' ⟨he, hw⟩
  rw [H1.out] at he
  subst he hw
  go_wp2_with fail
  refine (zztotal6 (w.heap.size + 1) 0 0 d 0 0 0 0 _ (by go_simp) (by go_simp) (by go_simp) (by go_simp) (by go_simp) (by go_simp)).mono ?_
  rintro e w' ⟨he, hw⟩
  rw [H2.out] at he
  subst he hw
  go_wp2
  go_ret
  exact ⟨rfl, ((Below.refl _ w).alloc (Nat.le_refl _) _).alloc (by simp) _⟩

theorem shift2 (c0 c1 c2 c3 c4 c5 d : Int) : wrap64 (c0 + c1 + wrap64 (c2 + d) + c3 + c4 + c5) = wrap64 (wrap64 (c0 + c1 + c2 + c3 + c4 + c5) + d) := by unfold wrap64; omega
theorem one2 (d : Int) (hd : -9223372036854775808 ≤ d ∧ d ≤ 9223372036854775807) : wrap64 (0 + 0 + d + 0 + 0 + 0) = d := by unfold wrap64; omega

set_option maxHeartbeats 400000 in
theorem law3_at2 (b off : Nat) (c0 c1 c2 c3 c4 c5 d : Int) (w : World) (hd : -9223372036854775808 ≤ d ∧ d ≤ 9223372036854775807) (h0 : w.cell? ⟨b, off, none⟩ = some (.int .i64 c0)) (h1 : w.cell? ⟨b, off + 1, none⟩ = some (.int .i64 c1)) (h2 : w.cell? ⟨b, off + 2, none⟩ = some (.int .i64 c2))
    (h3 : w.cell? ⟨b, off + 3, none⟩ = some (.int .i64 c3)) (h4 : w.cell? ⟨b, off + 4, none⟩ = some (.int .i64 c4)) (h5 : w.cell? ⟨b, off + 5, none⟩ = some (.int .i64 c5)) :
    Calls Try.prog 3 #[.pointer (some ⟨b, off, none⟩), .int .i64 2, .int .i64 d] w fun e w' => e = .returned (.bool true) ∧ Below w.heap.size w w' := by
  have HS := shift2 c0 c1 c2 c3 c4 c5 d
  have HO := one2 d hd
  have HC := zztotal6 b off c0 c1 c2 c3 c4 c5
  clear hd
  have H1 : Hid (wrap64 (c0 + c1 + wrap64 (c2 + d) + c3 + c4 + c5) = wrap64 (wrap64 (c0 + c1 + c2 + c3 + c4 + c5) + d)) := HS
  have H2 : Hid (wrap64 (0 + 0 + d + 0 + 0 + 0) = d) := HO
  clear HS HO HC
  go_enter Try.func3, Try.ntmps3
  go_wp2_with fail
  refine (zztotal6 b off c0 c1 c2 c3 c4 c5 _ (cell_alloc _ h0) (cell_alloc _ h1) (cell_alloc _ h2) (cell_alloc _ h3) (cell_alloc _ h4) (cell_alloc _ h5)).mono ?_
  rintro e w' ⟨rfl, rfl⟩
  go_wp2_with fail
  refine (zztotal6 w.heap.size 0 c0 c1 (wrap64 (c2 + d)) c3 c4 c5 _ (by go_simp) (by go_simp) (by go_simp) (by go_simp) (by go_simp) (by go_simp)).mono ?_
  rintro e w' ⟨he, hw⟩
  rw [H1.out] at he
  subst he hw
  go_wp2_with fail
  refine (zztotal6 (w.heap.size + 1) 0 0 0 d 0 0 0 _ (by go_simp) (by go_simp) (by go_simp) (by go_simp) (by go_simp) (by go_simp)).mono ?_
  rintro e w' ⟨he, hw⟩
  rw [H2.out] at he
  subst he hw
  go_wp2
  go_ret
  exact ⟨rfl, ((Below.refl _ w).alloc (Nat.le_refl _) _).alloc (by simp) _⟩

theorem shift3 (c0 c1 c2 c3 c4 c5 d : Int) : wrap64 (c0 + c1 + c2 + wrap64 (c3 + d) + c4 + c5) = wrap64 (wrap64 (c0 + c1 + c2 + c3 + c4 + c5) + d) := by unfold wrap64; omega
theorem one3 (d : Int) (hd : -9223372036854775808 ≤ d ∧ d ≤ 9223372036854775807) : wrap64 (0 + 0 + 0 + d + 0 + 0) = d := by unfold wrap64; omega

set_option maxHeartbeats 400000 in
theorem law3_at3 (b off : Nat) (c0 c1 c2 c3 c4 c5 d : Int) (w : World) (hd : -9223372036854775808 ≤ d ∧ d ≤ 9223372036854775807) (h0 : w.cell? ⟨b, off, none⟩ = some (.int .i64 c0)) (h1 : w.cell? ⟨b, off + 1, none⟩ = some (.int .i64 c1)) (h2 : w.cell? ⟨b, off + 2, none⟩ = some (.int .i64 c2))
    (h3 : w.cell? ⟨b, off + 3, none⟩ = some (.int .i64 c3)) (h4 : w.cell? ⟨b, off + 4, none⟩ = some (.int .i64 c4)) (h5 : w.cell? ⟨b, off + 5, none⟩ = some (.int .i64 c5)) :
    Calls Try.prog 3 #[.pointer (some ⟨b, off, none⟩), .int .i64 3, .int .i64 d] w fun e w' => e = .returned (.bool true) ∧ Below w.heap.size w w' := by
  have HS := shift3 c0 c1 c2 c3 c4 c5 d
  have HO := one3 d hd
  have HC := zztotal6 b off c0 c1 c2 c3 c4 c5
  clear hd
  have H1 : Hid (wrap64 (c0 + c1 + c2 + wrap64 (c3 + d) + c4 + c5) = wrap64 (wrap64 (c0 + c1 + c2 + c3 + c4 + c5) + d)) := HS
  have H2 : Hid (wrap64 (0 + 0 + 0 + d + 0 + 0) = d) := HO
  clear HS HO HC
  go_enter Try.func3, Try.ntmps3
  go_wp2_with fail
  refine (zztotal6 b off c0 c1 c2 c3 c4 c5 _ (cell_alloc _ h0) (cell_alloc _ h1) (cell_alloc _ h2) (cell_alloc _ h3) (cell_alloc _ h4) (cell_alloc _ h5)).mono ?_
  rintro e w' ⟨rfl, rfl⟩
  go_wp2_with fail
  refine (zztotal6 w.heap.size 0 c0 c1 c2 (wrap64 (c3 + d)) c4 c5 _ (by go_simp) (by go_simp) (by go_simp) (by go_simp) (by go_simp) (by go_simp)).mono ?_
  rintro e w' ⟨he, hw⟩
  rw [H1.out] at he
  subst he hw
  go_wp2_with fail
  refine (zztotal6 (w.heap.size + 1) 0 0 0 0 d 0 0 _ (by go_simp) (by go_simp) (by go_simp) (by go_simp) (by go_simp) (by go_simp)).mono ?_
  rintro e w' ⟨he, hw⟩
  rw [H2.out] at he
  subst he hw
  go_wp2
  go_ret
  exact ⟨rfl, ((Below.refl _ w).alloc (Nat.le_refl _) _).alloc (by simp) _⟩

theorem shift4 (c0 c1 c2 c3 c4 c5 d : Int) : wrap64 (c0 + c1 + c2 + c3 + wrap64 (c4 + d) + c5) = wrap64 (wrap64 (c0 + c1 + c2 + c3 + c4 + c5) + d) := by unfold wrap64; omega
theorem one4 (d : Int) (hd : -9223372036854775808 ≤ d ∧ d ≤ 9223372036854775807) : wrap64 (0 + 0 + 0 + 0 + d + 0) = d := by unfold wrap64; omega

set_option maxHeartbeats 400000 in
theorem law3_at4 (b off : Nat) (c0 c1 c2 c3 c4 c5 d : Int) (w : World) (hd : -9223372036854775808 ≤ d ∧ d ≤ 9223372036854775807) (h0 : w.cell? ⟨b, off, none⟩ = some (.int .i64 c0)) (h1 : w.cell? ⟨b, off + 1, none⟩ = some (.int .i64 c1)) (h2 : w.cell? ⟨b, off + 2, none⟩ = some (.int .i64 c2))
    (h3 : w.cell? ⟨b, off + 3, none⟩ = some (.int .i64 c3)) (h4 : w.cell? ⟨b, off + 4, none⟩ = some (.int .i64 c4)) (h5 : w.cell? ⟨b, off + 5, none⟩ = some (.int .i64 c5)) :
    Calls Try.prog 3 #[.pointer (some ⟨b, off, none⟩), .int .i64 4, .int .i64 d] w fun e w' => e = .returned (.bool true) ∧ Below w.heap.size w w' := by
  have HS := shift4 c0 c1 c2 c3 c4 c5 d
  have HO := one4 d hd
  have HC := zztotal6 b off c0 c1 c2 c3 c4 c5
  clear hd
  have H1 : Hid (wrap64 (c0 + c1 + c2 + c3 + wrap64 (c4 + d) + c5) = wrap64 (wrap64 (c0 + c1 + c2 + c3 + c4 + c5) + d)) := HS
  have H2 : Hid (wrap64 (0 + 0 + 0 + 0 + d + 0) = d) := HO
  clear HS HO HC
  go_enter Try.func3, Try.ntmps3
  go_wp2_with fail
  refine (zztotal6 b off c0 c1 c2 c3 c4 c5 _ (cell_alloc _ h0) (cell_alloc _ h1) (cell_alloc _ h2) (cell_alloc _ h3) (cell_alloc _ h4) (cell_alloc _ h5)).mono ?_
  rintro e w' ⟨rfl, rfl⟩
  go_wp2_with fail
  refine (zztotal6 w.heap.size 0 c0 c1 c2 c3 (wrap64 (c4 + d)) c5 _ (by go_simp) (by go_simp) (by go_simp) (by go_simp) (by go_simp) (by go_simp)).mono ?_
  rintro e w' ⟨he, hw⟩
  rw [H1.out] at he
  subst he hw
  go_wp2_with fail
  refine (zztotal6 (w.heap.size + 1) 0 0 0 0 0 d 0 _ (by go_simp) (by go_simp) (by go_simp) (by go_simp) (by go_simp) (by go_simp)).mono ?_
  rintro e w' ⟨he, hw⟩
  rw [H2.out] at he
  subst he hw
  go_wp2
  go_ret
  exact ⟨rfl, ((Below.refl _ w).alloc (Nat.le_refl _) _).alloc (by simp) _⟩

theorem shift5 (c0 c1 c2 c3 c4 c5 d : Int) : wrap64 (c0 + c1 + c2 + c3 + c4 + wrap64 (c5 + d)) = wrap64 (wrap64 (c0 + c1 + c2 + c3 + c4 + c5) + d) := by unfold wrap64; omega
theorem one5 (d : Int) (hd : -9223372036854775808 ≤ d ∧ d ≤ 9223372036854775807) : wrap64 (0 + 0 + 0 + 0 + 0 + d) = d := by unfold wrap64; omega

set_option maxHeartbeats 400000 in
theorem law3_at5 (b off : Nat) (c0 c1 c2 c3 c4 c5 d : Int) (w : World) (hd : -9223372036854775808 ≤ d ∧ d ≤ 9223372036854775807) (h0 : w.cell? ⟨b, off, none⟩ = some (.int .i64 c0)) (h1 : w.cell? ⟨b, off + 1, none⟩ = some (.int .i64 c1)) (h2 : w.cell? ⟨b, off + 2, none⟩ = some (.int .i64 c2))
    (h3 : w.cell? ⟨b, off + 3, none⟩ = some (.int .i64 c3)) (h4 : w.cell? ⟨b, off + 4, none⟩ = some (.int .i64 c4)) (h5 : w.cell? ⟨b, off + 5, none⟩ = some (.int .i64 c5)) :
    Calls Try.prog 3 #[.pointer (some ⟨b, off, none⟩), .int .i64 5, .int .i64 d] w fun e w' => e = .returned (.bool true) ∧ Below w.heap.size w w' := by
  have HS := shift5 c0 c1 c2 c3 c4 c5 d
  have HO := one5 d hd
  have HC := zztotal6 b off c0 c1 c2 c3 c4 c5
  clear hd
  have H1 : Hid (wrap64 (c0 + c1 + c2 + c3 + c4 + wrap64 (c5 + d)) = wrap64 (wrap64 (c0 + c1 + c2 + c3 + c4 + c5) + d)) := HS
  have H2 : Hid (wrap64 (0 + 0 + 0 + 0 + 0 + d) = d) := HO
  clear HS HO HC
  go_enter Try.func3, Try.ntmps3
  go_wp2_with fail
  refine (zztotal6 b off c0 c1 c2 c3 c4 c5 _ (cell_alloc _ h0) (cell_alloc _ h1) (cell_alloc _ h2) (cell_alloc _ h3) (cell_alloc _ h4) (cell_alloc _ h5)).mono ?_
  rintro e w' ⟨rfl, rfl⟩
  go_wp2_with fail
  refine (zztotal6 w.heap.size 0 c0 c1 c2 c3 c4 (wrap64 (c5 + d)) _ (by go_simp) (by go_simp) (by go_simp) (by go_simp) (by go_simp) (by go_simp)).mono ?_
  rintro e w' ⟨he, hw⟩
  rw [H1.out] at he
  subst he hw
  go_wp2_with fail
  refine (zztotal6 (w.heap.size + 1) 0 0 0 0 0 0 d _ (by go_simp) (by go_simp) (by go_simp) (by go_simp) (by go_simp) (by go_simp)).mono ?_
  rintro e w' ⟨he, hw⟩
  rw [H2.out] at he
  subst he hw
  go_wp2
  go_ret
  exact ⟨rfl, ((Below.refl _ w).alloc (Nat.le_refl _) _).alloc (by simp) _⟩
end Go.Proofs.Qxb6625879a
