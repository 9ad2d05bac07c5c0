/-
  The walks that only read: the bounds, zzNoWrap, zzCover.
-/
import Derived.Test.Qxb6625648aChecked
import Derived.Test.Qxb6625648aPlain
import Derived.WalkKit
import Derived.WalkSpells
import Derived.WalkLawsBesides
import Derived.WalkSmall
import Derived.Deep.QuietTactic
import Derived.BigQuiet
namespace Go.Proofs.Qxb6625648a
open Go.RowKit

theorem ret_bool {a b : Bool} (h : a = b) : Ending.returned (.bool a) = .returned (.bool b) := by rw [h]
theorem ret_int {k : IntKind} {a b : Int} (h : a = b) : Ending.returned (.int k a) = .returned (.int k b) := by rw [h]

set_option maxHeartbeats 400000 in
theorem bytes5_yes (ad : Option Addr) (len cap : Nat) (id : Int) (w : World) (h : (len : Int) ≤ 1048576) :
    Calls Try.prog 5 #[.slice ad len cap, .int .u32 id] w fun e w' => e = .returned (.bool true) ∧ w' = w := by
  go_enter Try.func5, Try.ntmps5
  go_wp2
  go_ret
  exact ⟨rfl, rfl⟩

set_option maxHeartbeats 400000 in
theorem bytes5_no (ad : Option Addr) (len cap : Nat) (id : Int) (w : World) (h : (1048576 : Int) < len) :
    Calls Try.prog 5 #[.slice ad len cap, .int .u32 id] w fun e w' => e = .returned (.bool false) ∧ w' = w := by
  go_enter Try.func5, Try.ntmps5
  go_wp2
  go_ret
  exact ⟨rfl, rfl⟩

set_option maxHeartbeats 400000 in
theorem bytes9_yes (ad : Option Addr) (len cap : Nat) (a b x : Int) (w : World) (h : (len : Int) ≤ 1048576) :
    Calls Try.prog 9 #[.slice ad len cap, .int .u32 a, .int .u32 b, .int .u32 x] w fun e w' => e = .returned (.bool true) ∧ w' = w := by
  go_enter Try.func9, Try.ntmps9
  go_wp2
  go_ret
  exact ⟨rfl, rfl⟩

set_option maxHeartbeats 400000 in
theorem bytes9_no (ad : Option Addr) (len cap : Nat) (a b x : Int) (w : World) (h : (1048576 : Int) < len) :
    Calls Try.prog 9 #[.slice ad len cap, .int .u32 a, .int .u32 b, .int .u32 x] w fun e w' => e = .returned (.bool false) ∧ w' = w := by
  go_enter Try.func9, Try.ntmps9
  go_wp2
  go_ret
  exact ⟨rfl, rfl⟩

/-- The two cells of each element. -/
def At (w : World) (b off : Nat) (L : List (Int × Int)) : Prop :=
  ∀ i p, L[i]? = some p → w.cell? ⟨b, off + i * 2, none⟩ = some (.int .u32 p.1) ∧ w.cell? ⟨b, off + i * 2 + 1, none⟩ = some (.int .u32 p.2)
/-- The slice value v holds the ranges L. -/
def Sees (w : World) (v : Value) (L : List (Int × Int)) : Prop :=
  ∃ ad cap, v = .slice ad L.length cap ∧ (L = [] ∨ ∃ b off, ad = some ⟨b, off, none⟩ ∧ b < w.heap.size ∧ At w b off L)
theorem Sees.below {w w' : World} {v : Value} {L : List (Int × Int)} (h : Sees w v L) (hb : Below w.heap.size w w') : Sees w' v L := by
  obtain ⟨ad, cap, rfl, h⟩ := h
  refine ⟨ad, cap, rfl, ?_⟩
  rcases h with h | ⟨b, off, rfl, hlt, hat⟩
  · exact Or.inl h
  · refine Or.inr ⟨b, off, rfl, Nat.lt_of_lt_of_le hlt hb.size, fun i p hp => ?_⟩
    rw [hb.cell (p := ⟨b, off + i * 2, none⟩) hlt, hb.cell (p := ⟨b, off + i * 2 + 1, none⟩) hlt]
    exact hat i p hp

theorem all_stop {L : List (Int × Int)} {k : Nat} {p : Int × Int} (hp : L[k]? = some p) (h : (4294967296 : Int) < p.1 + p.2) : L.all fits = false := by
  rw [List.all_eq_false]
  exact ⟨p, List.mem_of_getElem? hp, by simp [fits]; omega⟩
theorem all_step {L : List (Int × Int)} {k : Nat} {p : Int × Int} (hp : L[k]? = some p) (ha : (L.take k).all fits = true) (h : p.1 + p.2 ≤ 4294967296) : (L.take (k + 1)).all fits = true := by
  rw [take_succ hp, List.all_append, ha]
  simpa [fits] using h

set_option maxHeartbeats 400000 in
theorem noWrap_some (b off cap : Nat) (L : List (Int × Int)) (w : World) (hl : L.length ≤ 1048576) (hu : U32s L) (hc : At w b off L) :
    Calls Try.prog 6 #[.slice (some ⟨b, off, none⟩) L.length cap] w fun e w' => e = .returned (.bool (L.all fits)) ∧ ∃ n, w' = w.drewN n := by
  go_enter Try.func6, Try.ntmps6
  go_wp2
  go_loopw [3] (fun i wr => ∃ k : Nat, k ≤ L.length ∧ i = .int .i64 k ∧ (L.take k).all fits = true ∧ ∃ n, wr = w.drewN n) (fun i _ => L.length - (intOf i).toNat)
  case atStart => exact ⟨0, Nat.zero_le _, rfl, by simp, 0, rfl⟩
  case round =>
    obtain ⟨k, hk, rfl, hall, n, rfl⟩ := hrel
    by_cases hlt : k < L.length
    · obtain ⟨p, hp⟩ : ∃ p, L[k]? = some p := ⟨_, List.getElem?_eq_getElem hlt⟩
      obtain ⟨hc0, hc1⟩ := hc k p hp
      obtain ⟨⟨u0, u1⟩, u2, u3⟩ := hu p (List.mem_of_getElem? hp)
      have HP : Hid (L[k]? = some p) := hp
      have HA : Hid ((L.take k).all fits = true) := hall
      clear hp hc hu hall
      go_wp2
      go_quiet (fail)
      go_wp2
      · go_ret
        exact ⟨ret_bool (all_stop HP.out ‹_›).symm, n + nq, World.drewN_drewN _ _ _⟩
      · go_roundw
        case rel => exact ⟨k + 1, by omega, by go_num, all_step HP.out HA.out ‹_›, _, rfl⟩
        case measure => simp [intOf]; omega
    · have HA : Hid (L.all fits = true) := by rw [List.take_of_length_le (by omega)] at hall; exact hall
      clear hc hu hall
      go_wp2
      go_ret
      exact ⟨ret_bool HA.out.symm, _, rfl⟩

set_option maxHeartbeats 400000 in
theorem noWrap_nil (ad : Option Addr) (cap : Nat) (w : World) :
    Calls Try.prog 6 #[.slice ad 0 cap] w fun e w' => e = .returned (.bool true) ∧ w' = w := by
  go_enter Try.func6, Try.ntmps6
  go_wp2
  refine wp_loop_rounds 1 ?_
  rw [rounds_succ]
  go_wp2
  go_ret
  exact ⟨rfl, rfl⟩

theorem noWrap_any (v : Value) (L : List (Int × Int)) (w : World) (hl : L.length ≤ 1048576) (hu : U32s L) (hs : Sees w v L) :
    Calls Try.prog 6 #[v] w fun e w' => e = .returned (.bool (L.all fits)) ∧ ∃ n, w' = w.drewN n := by
  obtain ⟨ad, cap, rfl, h⟩ := hs
  rcases h with rfl | ⟨b, off, rfl, _, hat⟩
  · exact (noWrap_nil ad cap w).mono fun e w' ⟨he, hw⟩ => ⟨he, 0, hw⟩
  · exact noWrap_some b off cap L w hl hu hat

set_option maxHeartbeats 400000 in
theorem cover_some (b off cap : Nat) (L : List (Int × Int)) (x : Int) (w : World) (hl : L.length ≤ 1048576) (hu : U32s L) (hx : U32 x) (hc : At w b off L) :
    Calls Try.prog 10 #[.slice (some ⟨b, off, none⟩) L.length cap, .int .u32 x] w fun e w' => e = .returned (.int .i64 (cover x L)) ∧ w' = w := by
  obtain ⟨x0, x1⟩ := hx
  go_enter Try.func10, Try.ntmps10
  go_wp2
  go_loop [5, 6] (fun n i => ∃ k : Nat, k ≤ L.length ∧ i = .int .i64 k ∧ n = .int .i64 (cover x (L.take k))) (fun _ i => L.length - (intOf i).toNat)
  case atStart => exact ⟨0, Nat.zero_le _, rfl, by simp [cover]⟩
  case round =>
    obtain ⟨k, hk, rfl, rfl⟩ := hrel
    have hcl := cover_le x (L.take k)
    have hl2 := take_len_le L k
    by_cases hlt : k < L.length
    · obtain ⟨p, hp⟩ : ∃ p, L[k]? = some p := ⟨_, List.getElem?_eq_getElem hlt⟩
      obtain ⟨hc0, hc1⟩ := hc k p hp
      obtain ⟨⟨u0, u1⟩, u2, u3⟩ := hu p (List.mem_of_getElem? hp)
      have HC : Hid (cover x (L.take (k + 1)) = cover x (L.take k) + if p.1 ≤ x ∧ x < p.1 + p.2 then 1 else 0) := cover_take x hp
      clear hp hc hu
      go_wp2
      all_goals
        go_round
        case rel => exact ⟨k + 1, by omega, by go_num, by rw [HC.out]; first | (rw [if_pos ⟨‹_›, ‹_›⟩]; go_num) | (rw [if_neg (by omega)]; go_num)⟩
        case measure => simp [intOf]; omega
    · clear hc hu
      go_wp2
      go_ret
      exact ⟨ret_int (by rw [List.take_of_length_le (by omega)]), rfl⟩

set_option maxHeartbeats 400000 in
theorem cover_none (ad : Option Addr) (cap : Nat) (x : Int) (w : World) :
    Calls Try.prog 10 #[.slice ad 0 cap, .int .u32 x] w fun e w' => e = .returned (.int .i64 0) ∧ w' = w := by
  go_enter Try.func10, Try.ntmps10
  go_wp2
  refine wp_loop_rounds 1 ?_
  rw [rounds_succ]
  go_wp2
  go_ret
  exact ⟨rfl, rfl⟩

theorem cover_any (v : Value) (L : List (Int × Int)) (x : Int) (w : World) (hl : L.length ≤ 1048576) (hu : U32s L) (hx : U32 x) (hs : Sees w v L) :
    Calls Try.prog 10 #[v, .int .u32 x] w fun e w' => e = .returned (.int .i64 (cover x L)) ∧ w' = w := by
  obtain ⟨ad, cap, rfl, h⟩ := hs
  rcases h with rfl | ⟨b, off, rfl, _, hat⟩
  · exact cover_none ad cap x w
  · exact cover_some b off cap L x w hl hu hx hat
end Go.Proofs.Qxb6625648a
