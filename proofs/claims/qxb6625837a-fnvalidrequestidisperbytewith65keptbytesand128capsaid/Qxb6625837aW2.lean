/-
  unreservedNotTilde, and the law over it.
-/
import Derived.Test.Qxb6625837aW1
namespace Go.Proofs.Qxb6625837a
open Go.RowKit

/-- The program's own list of unreserved characters. -/
abbrev zz : ByteArray := { data := #[65, 66, 67, 68, 69, 70, 71, 72, 73, 74, 75, 76, 77, 78, 79, 80, 81, 82, 83, 84, 85, 86, 87, 88, 89, 90, 97, 98, 99, 100, 101, 102, 103, 104, 105, 106, 107, 108, 109, 110, 111, 112, 113, 114, 115, 116, 117, 118, 119, 120, 121, 122, 48, 49, 50, 51, 52, 53, 54, 55, 56, 57, 45, 46, 95, 126] }
def zn (j : Nat) : Int := ((zz.data.getD j 0).toNat : Int)
theorem zz_at (k : Nat) (h : k < zz.size) : (((zz[k]'h).toNat : Nat) : Int) = zn k := by
  have h' : k < zz.data.size := h
  unfold zn
  rw [Array.getD_eq_getD_getElem?, Array.getElem?_eq_getElem h']
  rfl
theorem found_all : ∀ k : Nat, k < 66 → zn k = 126 ∨ okn (zn k) = true := by decide +kernel
theorem miss_all : ∀ c : Nat, c < 256 → okn (c : Int) = true → ∃ k : Nat, k < 66 ∧ zn k = (c : Int) := by decide +kernel
theorem found_ok {k : Nat} {c : Int} (hk : k < 66) (h : k < zz.size) (he : ((((zz[k]'h).toNat : Nat) : Int) == c) = true) (ht : ¬ c = 126) : okn c = true := by
  rw [zz_at, beq_iff_eq] at he
  subst he
  rcases found_all k hk with h2 | h2
  · exact absurd h2 ht
  · exact h2
theorem miss_step {k : Nat} {c : Int} (h : k < zz.size) (he : ((((zz[k]'h).toNat : Nat) : Int) == c) = false) (hp : ∀ j, j < k → zn j ≠ c) : ∀ j, j < k + 1 → zn j ≠ c := by
  rw [zz_at, beq_eq_false_iff_ne] at he
  intro j hj
  by_cases hjk : j = k
  · subst hjk; exact he
  · exact hp j (by omega)
theorem miss_ok {c : Int} (h0 : 0 ≤ c) (h1 : c ≤ 255) (hp : ∀ j, j < 66 → zn j ≠ c) : okn c = false := by
  cases hc : okn c with
  | false => rfl
  | true =>
    obtain ⟨n, rfl⟩ := Int.eq_ofNat_of_zero_le h0
    obtain ⟨k, hk, he⟩ := miss_all n (by omega) hc
    exact absurd he (hp k hk)

set_option maxHeartbeats 400000 in
theorem unres_tilde (w : World) : Calls Try.prog 6 #[.int .u8 126] w fun e w' => e = .returned (.bool false) ∧ w' = w := by
  go_enter Try.func6, Try.ntmps6
  go_wp2
  go_ret
  exact ⟨rfl, rfl⟩

set_option maxHeartbeats 400000 in
theorem unres_rest (c : Int) (w : World) (h0 : 0 ≤ c) (h1 : c ≤ 255) (ht : ¬ c = 126) : Calls Try.prog 6 #[.int .u8 c] w fun e w' => e = .returned (.bool (okn c)) ∧ w' = w := by
  have hz : zz.size = 66 := rfl
  have HZ : Hid (zz.size = 66) := hz
  clear hz
  go_enter Try.func6, Try.ntmps6
  go_wp2
  go_loop [3] (fun i => ∃ k : Nat, k ≤ 66 ∧ i = .int .i64 k ∧ ∀ j, j < k → zn j ≠ c) (fun i => 66 - (intOf i).toNat)
  case atStart => exact ⟨0, Nat.zero_le _, rfl, fun j hj => absurd hj (Nat.not_lt_zero _)⟩
  case round =>
    obtain ⟨k, hk, rfl, hp⟩ := hrel
    have HP : Hid (∀ j, j < k → zn j ≠ c) := hp
    clear hp
    by_cases hlt : k < 66
    · have hkz : k < zz.size := by rw [HZ.out]; exact hlt
      go_wp2
      · go_ret
        have he : ((((zz[k]'hkz).toNat : Nat) : Int) == c) = true := by assumption
        exact ⟨ret_bool (found_ok hlt hkz he ht).symm, rfl⟩
      · go_round
        case rel =>
          have he : ((((zz[k]'hkz).toNat : Nat) : Int) == c) = false := by assumption
          exact ⟨k + 1, by omega, by go_num, miss_step hkz he HP.out⟩
        case measure => simp [intOf]; omega
    · obtain rfl : k = 66 := by omega
      go_wp2
      go_ret
      exact ⟨ret_bool (miss_ok h0 h1 HP.out).symm, rfl⟩

theorem unres_any (c : Int) (w : World) (h0 : 0 ≤ c) (h1 : c ≤ 255) : Calls Try.prog 6 #[.int .u8 c] w fun e w' => e = .returned (.bool (okn c)) ∧ w' = w := by
  by_cases h : c = 126
  · subst h
    exact unres_tilde w
  · exact unres_rest c w h0 h1 h

set_option maxHeartbeats 400000 in
theorem bytes5_yes (s : ByteArray) (w : World) (hs : (s.size : Int) ≤ 1048576) :
    Calls Try.prog 5 #[.string s] w fun e w' => e = .returned (.bool true) ∧ w' = w := by
  go_enter Try.func5, Try.ntmps5
  go_wp2
  go_ret
  exact ⟨rfl, rfl⟩

set_option maxHeartbeats 400000 in
theorem bytes5_no (s : ByteArray) (w : World) (hs : (1048576 : Int) < s.size) :
    Calls Try.prog 5 #[.string s] w fun e w' => e = .returned (.bool false) ∧ w' = w := by
  go_enter Try.func5, Try.ntmps5
  go_wp2
  go_ret
  exact ⟨rfl, rfl⟩

set_option maxHeartbeats 400000 in
theorem law3_long (s : ByteArray) (w : World) (hs : (1048576 : Int) < s.size) :
    Calls Try.prog 3 #[.string s] w fun e w' => e = .returned (.bool true) ∧ Below w.heap.size w w' := by
  go_enter Try.func3, Try.ntmps3
  go_wp2_with fail
  refine (bytes5_no _ _ hs).mono ?_
  rintro e w' ⟨rfl, hw⟩
  subst w'
  go_wp2
  go_ret
  exact ⟨rfl, Below.refl _ _⟩

set_option maxHeartbeats 400000 in
theorem law3_out (s : ByteArray) (w : World) (hs : (s.size : Int) ≤ 1048576) (h : (s.size : Int) < 1 ∨ (128 : Int) < s.size) :
    Calls Try.prog 3 #[.string s] w fun e w' => e = .returned (.bool true) ∧ Below w.heap.size w w' := by
  have H := zzvalid_any s
  rw [show vld (nums s) = false from by unfold vld; rw [nums_len]; rcases h with h | h <;> simp <;> omega] at H
  rcases h with h | h
  all_goals
    go_enter Try.func3, Try.ntmps3
    go_wp2_with fail
    refine (bytes5_yes _ _ hs).mono ?_
    rintro e w' ⟨rfl, hw⟩
    subst w'
    go_wp2
    refine wp_loop_rounds 1 ?_
    rw [rounds_succ]
    go_wp2_with fail
    refine (H _).mono ?_
    rintro e w' ⟨rfl, hb⟩
    go_wp2
    go_ret
    first | exact ⟨rfl, hb⟩ | exact ⟨ret_bool (by simp; omega), hb⟩

theorem nums_get (s : ByteArray) (k : Nat) (h : k < s.size) : (nums s)[k]? = some (((s[k]'h).toNat : Nat) : Int) := by
  have h' : k < s.data.size := h
  unfold nums
  rw [List.getElem?_map, Array.getElem?_toList, Array.getElem?_eq_getElem h']
  rfl
theorem all_no {B : List Int} {k : Nat} {n : Int} (hp : B[k]? = some n) (h : okn n = false) : (B.take (k + 1)).all okn = false := by
  rw [take_succ hp, List.all_append]
  simp [h]
theorem all_take_no {B : List Int} {k : Nat} (h : (B.take k).all okn = false) : B.all okn = false := by
  rw [List.all_eq_false] at h ⊢
  obtain ⟨n, hn, h⟩ := h
  exact ⟨n, List.mem_of_mem_take hn, h⟩

set_option maxHeartbeats 1000000 in
theorem law3_in (s : ByteArray) (w : World) (h1 : (1 : Int) ≤ s.size) (h2 : (s.size : Int) ≤ 128) :
    Calls Try.prog 3 #[.string s] w fun e w' => e = .returned (.bool true) ∧ Below w.heap.size w w' := by
  have H := zzvalid_any s
  rw [show vld (nums s) = (nums s).all okn from by unfold vld; rw [nums_len]; simp; omega] at H
  go_enter Try.func3, Try.ntmps3
  go_wp2_with fail
  refine (bytes5_yes _ _ (by omega)).mono ?_
  rintro e w' ⟨rfl, hw⟩
  subst w'
  go_wp2
  go_loop [3, 4] (fun b i => ∃ k : Nat, k ≤ s.size ∧ i = .int .i64 k ∧ b = .bool (((nums s).take k).all okn)) (fun _ i => s.size - (intOf i).toNat)
  case atStart => exact ⟨0, Nat.zero_le _, rfl, rfl⟩
  case round =>
    obtain ⟨k, hk, rfl, rfl⟩ := hrel
    cases hall : ((nums s).take k).all okn with
    | false =>
      have HA : (nums s).all okn = false := all_take_no hall
      rw [HA] at H
      clear HA hall
      by_cases hlt : k < s.size
      all_goals
        go_wp2_with fail
        refine (H _).mono ?_
        rintro e w' ⟨rfl, hb⟩
        go_wp2
        go_ret
        exact ⟨rfl, hb⟩
    | true =>
      by_cases hlt : k < s.size
      · have hn := nums_get s k hlt
        have hb := nums_bd s _ (List.mem_of_getElem? hn)
        obtain ⟨n0, n1⟩ := hb
        cases hok : okn (((s[k]'hlt).toNat : Nat) : Int) with
        | false =>
          have HN : Hid (((nums s).take (k + 1)).all okn = false) := all_no hn hok
          have HU := fun u => unres_any _ u n0 n1
          rw [hok] at HU
          clear hn hok hall H
          go_wp2_with fail
          refine (HU _).mono ?_
          rintro e w' ⟨rfl, hw⟩
          subst w'
          go_wp2
          go_round
          case rel => exact ⟨k + 1, by omega, by go_num, by rw [HN.out]⟩
          case measure => simp [intOf]; omega
        | true =>
          have HN : Hid (((nums s).take (k + 1)).all okn = true) := all_step hn hall hok
          have HU := fun u => unres_any _ u n0 n1
          rw [hok] at HU
          clear hn hok hall H
          go_wp2_with fail
          refine (HU _).mono ?_
          rintro e w' ⟨rfl, hw⟩
          subst w'
          go_wp2
          go_round
          case rel => exact ⟨k + 1, by omega, by go_num, by rw [HN.out]⟩
          case measure => simp [intOf]; omega
      · have HA : (nums s).all okn = true := by rw [List.take_of_length_le (by rw [nums_len]; omega)] at hall; exact hall
        rw [HA] at H
        clear HA hall
        go_wp2_with fail
        refine (H _).mono ?_
        rintro e w' ⟨rfl, hb⟩
        go_wp2
        go_ret
        exact ⟨rfl, hb⟩
end Go.Proofs.Qxb6625837a
