/-
  validRequestID: 1 to 128 bytes, each a letter, a digit, a dot, an underscore or a hyphen.
-/
import Derived.Test.Qxb6625837aChecked
import Derived.WalkKit
import Derived.WalkSpells
import Derived.WalkLawsBesides
import Derived.WalkSmall
import Derived.Laws.IdiomStrings
namespace Go.Proofs.Qxb6625837a
open Go.RowKit

theorem ret_bool {a b : Bool} (h : a = b) : Ending.returned (.bool a) = .returned (.bool b) := by rw [h]
theorem take_succ {α : Type} {L : List α} {k : Nat} {p : α} (h : L[k]? = some p) : L.take (k + 1) = L.take k ++ [p] := by
  rw [List.take_add_one, h]; rfl

/-- A byte that is kept, as a number. -/
def okn (n : Int) : Bool := decide ((97 ≤ n ∧ n ≤ 122) ∨ (65 ≤ n ∧ n ≤ 90) ∨ (48 ≤ n ∧ n ≤ 57) ∨ n = 46 ∨ n = 95 ∨ n = 45)
/-- A string's bytes as numbers. -/
def nums (s : ByteArray) : List Int := s.data.toList.map fun c => (c.toNat : Int)
theorem nums_len (s : ByteArray) : (nums s).length = s.size := by simp [nums]
/-- What validRequestID answers. -/
def vld (B : List Int) : Bool := decide (1 ≤ B.length) && decide (B.length ≤ 128) && B.all okn

theorem nums_row (s : ByteArray) (cap k : Nat) (n : Int) (h : (nums s)[k]? = some n) : (bytesRow s cap)[k]? = some (.int .u8 n) := by
  have hk : k < s.data.size := by
    have := (List.getElem?_eq_some_iff.1 h).1
    rw [nums_len] at this
    exact this
  rw [bytesRow_at s cap k hk]
  unfold nums at h
  rw [List.getElem?_map, Array.getElem?_toList, Array.getElem?_eq_getElem hk] at h
  simp at h
  rw [h]
theorem nums_bd (s : ByteArray) (n : Int) (h : n ∈ nums s) : 0 ≤ n ∧ n ≤ 255 := by
  obtain ⟨c, _, rfl⟩ := List.mem_map.1 h
  have := c.toNat_lt
  omega

theorem all_stop {B : List Int} {k : Nat} {n : Int} (hp : B[k]? = some n) (h : okn n = false) : B.all okn = false := by
  rw [List.all_eq_false]
  exact ⟨n, List.mem_of_getElem? hp, by simp [h]⟩
theorem all_step {B : List Int} {k : Nat} {n : Int} (hp : B[k]? = some n) (ha : (B.take k).all okn = true) (h : okn n = true) : (B.take (k + 1)).all okn = true := by
  rw [take_succ hp, List.all_append, ha]
  simp [h]

set_option maxHeartbeats 400000 in
theorem valid_empty (s : ByteArray) (w : World) (h : s.toList.isEmpty = true) :
    Calls Try.prog 9 #[.string s] w fun e w' => e = .returned (.bool false) ∧ w' = w := by
  go_enter Try.func9, Try.ntmps9
  go_wp2
  go_ret
  exact ⟨rfl, rfl⟩

set_option maxHeartbeats 400000 in
theorem valid_long (s : ByteArray) (w : World) (h : s.toList.isEmpty = false) (h2 : (128 : Int) < s.size) :
    Calls Try.prog 9 #[.string s] w fun e w' => e = .returned (.bool false) ∧ w' = w := by
  go_enter Try.func9, Try.ntmps9
  go_wp2
  go_ret
  exact ⟨rfl, rfl⟩

set_option maxHeartbeats 400000 in
theorem valid_in (s : ByteArray) (w : World) (h : s.toList.isEmpty = false) (h2 : (s.size : Int) ≤ 128) :
    Calls Try.prog 9 #[.string s] w fun e w' => e = .returned (.bool ((nums s).all okn)) ∧ Below w.heap.size w w' := by
  have hcv := fun u => run_bytes_of_string (P := Try.prog) u 9 24 5 s Try.underlying9 Try.underlying24 Try.underlying5
  have hlen := nums_len s
  have hcell : ∀ k n, (nums s)[k]? = some n → ((w.alloc (.cells (bytesRow s (grownCap w s.size 0 5)) 5 ((bytesRow s (grownCap w s.size 0 5)).size, (bytesRow s (grownCap w s.size 0 5)).size + 1))).drew).cell? ⟨w.heap.size, k, none⟩ = some (.int .u8 n) := fun k n hn => by
    rw [World.cell?_drew, World.cell?_alloc_mark]
    exact nums_row s _ k n hn
  have hbl : Below w.heap.size w ((w.alloc (.cells (bytesRow s (grownCap w s.size 0 5)) 5 ((bytesRow s (grownCap w s.size 0 5)).size, (bytesRow s (grownCap w s.size 0 5)).size + 1))).drew) := ((Below.refl _ w).alloc (Nat.le_refl _) _).drew
  go_enter Try.func9, Try.ntmps9
  go_wp2
  obtain ⟨X, hX⟩ : ∃ X, X = (w.alloc (.cells (bytesRow s (grownCap w s.size 0 5)) 5 ((bytesRow s (grownCap w s.size 0 5)).size, (bytesRow s (grownCap w s.size 0 5)).size + 1))).drew := ⟨_, rfl⟩
  rw [← hX] at hcell hbl ⊢
  clear hX hcv
  go_loop [15] (fun i => ∃ k : Nat, k ≤ s.size ∧ i = .int .i64 k ∧ ((nums s).take k).all okn = true) (fun i => s.size - (intOf i).toNat)
  case atStart => exact ⟨0, Nat.zero_le _, rfl, by simp⟩
  case round =>
    obtain ⟨k, hk, rfl, hall⟩ := hrel
    by_cases hlt : k < s.size
    · obtain ⟨n, hn⟩ : ∃ n, (nums s)[k]? = some n := ⟨_, List.getElem?_eq_getElem (by omega)⟩
      have hc := hcell k n hn
      obtain ⟨n0, n1⟩ := nums_bd s n (List.mem_of_getElem? hn)
      have HN : Hid ((nums s)[k]? = some n) := hn
      have HA : Hid (((nums s).take k).all okn = true) := hall
      clear hn hcell hall
      go_wp2
      all_goals first
        | (go_ret
           exact ⟨ret_bool (all_stop HN.out (by simp only [okn, decide_eq_false_iff_not, beq_eq_false_iff_ne] at *; omega)).symm, hbl⟩)
        | (go_round
           case rel => exact ⟨k + 1, by omega, by go_num, all_step HN.out HA.out (by simp only [okn, decide_eq_true_eq, beq_eq_false_iff_ne, beq_iff_eq] at *; omega)⟩
           case measure => simp [intOf]; omega)
    · have HA : Hid ((nums s).all okn = true) := by rw [List.take_of_length_le (by omega)] at hall; exact hall
      clear hcell hall
      go_wp2
      go_ret
      exact ⟨ret_bool HA.out.symm, hbl⟩

theorem isEmpty_eq (s : ByteArray) : s.toList.isEmpty = decide (s.size = 0) := by
  rw [ByteArray.toList_eq]
  obtain ⟨⟨l⟩⟩ := s
  cases l with
  | nil => rfl
  | cons x xs =>
    symm
    rw [show (x :: xs).isEmpty = false from rfl, decide_eq_false_iff_not]
    exact Nat.succ_ne_zero _

theorem valid_any (s : ByteArray) (w : World) :
    Calls Try.prog 9 #[.string s] w fun e w' => e = .returned (.bool (vld (nums s))) ∧ Below w.heap.size w w' := by
  by_cases h0 : s.size = 0
  · refine (valid_empty s w (by rw [isEmpty_eq, h0]; rfl)).mono fun e w' ⟨he, hw⟩ => ?_
    subst hw
    exact ⟨he.trans (ret_bool (by simp [vld, nums_len, h0])), Below.refl _ _⟩
  have he : s.toList.isEmpty = false := by rw [isEmpty_eq]; simpa using h0
  by_cases h1 : s.size ≤ 128
  · refine (valid_in s w he (by omega)).mono fun e w' ⟨hr, hw⟩ => ⟨hr.trans (ret_bool ?_), hw⟩
    simp [vld, nums_len, h1, show 1 ≤ s.size by omega]
  · refine (valid_long s w he (by omega)).mono fun e w' ⟨hr, hw⟩ => ?_
    subst hw
    exact ⟨hr.trans (ret_bool (by simp [vld, nums_len, h1])), Below.refl _ _⟩

set_option maxHeartbeats 400000 in
theorem zzvalid_any (s : ByteArray) (w : World) :
    Calls Try.prog 7 #[.string s] w fun e w' => e = .returned (.bool (vld (nums s))) ∧ Below w.heap.size w w' := by
  have H := valid_any s
  obtain ⟨V, hV⟩ : ∃ V, V = vld (nums s) := ⟨_, rfl⟩
  rw [← hV] at H ⊢
  clear hV
  go_enter Try.func7, Try.ntmps7
  go_wp2_with fail
  refine (H _).mono ?_
  clear H
  rintro e w' ⟨rfl, hb⟩
  go_wp2
  go_ret
  exact ⟨rfl, hb⟩
end Go.Proofs.Qxb6625837a
