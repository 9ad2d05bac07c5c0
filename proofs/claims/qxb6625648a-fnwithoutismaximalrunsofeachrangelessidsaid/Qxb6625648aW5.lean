/-
  The first law's walk, its two main roads.
-/
import Derived.Test.Qxb6625648aW4
namespace Go.Proofs.Qxb6625648a
open Go.RowKit
set_option maxRecDepth 100000

theorem At.below {w w' : World} {b off : Nat} {L : List (Int × Int)} (h : At w b off L) (hlt : b < w.heap.size) (hb : Below w.heap.size w w') : At w' b off L := fun i p hp => by
  rw [hb.cell (p := ⟨b, off + i * 2, none⟩) hlt, hb.cell (p := ⟨b, off + i * 2 + 1, none⟩) hlt]
  exact h i p hp
theorem piece_nil {id : Int} {p : Int × Int} (h : piece id p = []) : p.1 = id ∧ p.2 = 1 := by
  by_cases h0 : id < p.1 ∨ p.1 + p.2 ≤ id
  · rw [piece_out h0] at h; simp at h
  · rw [piece_in (by omega) (by omega)] at h
    by_cases h1 : p.1 < id
    · rw [if_pos h1] at h; simp at h
    · by_cases h2 : id < p.1 + p.2 - 1
      · rw [if_pos h2] at h; simp at h
      · omega
theorem pieces_nil {id : Int} {L : List (Int × Int)} (h : wo id L = []) {k : Nat} {p : Int × Int} (hp : L[k]? = some p) : piece id p = [] := by
  rw [wo_split id hp] at h
  simp at h
  exact h.2.1

set_option maxHeartbeats 1000000 in
theorem law3_empty (b off cap : Nat) (L : List (Int × Int)) (id : Int) (w : World) (h2 : (L.length : Int) ≤ 65536) (hu : U32s L) (hid : U32 id) (hf : L.all fits = true) (hlt0 : b < w.heap.size) (hc : At w b off L) (hM : wo id L = []) :
    Calls Try.prog 3 #[.slice (some ⟨b, off, none⟩) L.length cap, .int .u32 id] w fun e w' => e = .returned (.bool true) ∧ Below w.heap.size w w' := by
  have hs : Sees w (.slice (some ⟨b, off, none⟩) L.length cap) L := ⟨_, _, rfl, Or.inr ⟨b, off, rfl, hlt0, hc⟩⟩
  have H6 := fun u hsu => noWrap_any (.slice (some ⟨b, off, none⟩) L.length cap) L u (by omega) hu hsu
  rw [hf] at H6
  have H8 := fun u hsu => toRanges_any (.slice (some ⟨b, off, none⟩) L.length cap) L u (by omega) hsu (Or.inr ⟨_, _, _, rfl⟩)
  have H7 := fun v1 u hu1 => zzwithout_any v1 L id u (by omega) hu hid hf hu1
  rw [hM] at H7
  have hq := fun u => Lib.run_eql_slice_nil (P := Try.prog) u 26 32 none 0 0 0 0 Try.underlying26
  have HM : Hid (wo id L = []) := hM
  obtain ⟨d0, d1⟩ := hid
  clear hM hf hu
  go_enter Try.func3, Try.ntmps3
  go_wp2_with fail
  refine (bytes5_yes _ _ _ _ _ (by omega)).mono ?_
  rintro e w' ⟨rfl, hw⟩
  subst w'
  go_wp2_with fail
  refine (H6 _ hs).mono ?_
  rintro e w' ⟨rfl, n, rfl⟩
  go_wp2_with fail
  refine (H8 (w.drewN n) (by exact hs)).mono ?_
  rintro e w1 ⟨v1, rfl, hs1, hb1⟩
  go_wp2_with fail
  refine (H7 _ _ hs1).mono ?_
  rintro e w2 ⟨v2, rfl, ho⟩
  obtain rfl := ho.2.1 rfl
  have hb2 : Below w.heap.size w w2 := (below_drewN (Below.refl _ w) n).trans (hb1.trans (ho.2.2.mono hb1.size))
  have hc2 := hc.below hlt0 hb2
  clear H6 H7 H8 ho hb1 hs1 hc hs
  go_wp2
  go_loop [7, 8] (fun kk i => ∃ j : Nat, j ≤ L.length ∧ i = .int .i64 j ∧ kk = .int .i64 0) (fun _ i => L.length - (intOf i).toNat)
  case atStart => exact ⟨0, Nat.zero_le _, rfl, rfl⟩
  case round =>
    obtain ⟨j, hj, rfl, rfl⟩ := hrel
    by_cases hlt : j < L.length
    · obtain ⟨p, hp⟩ : ∃ p, L[j]? = some p := ⟨_, List.getElem?_eq_getElem hlt⟩
      obtain ⟨hc0, hc1⟩ := hc2 j p hp
      obtain ⟨e0, e1⟩ := piece_nil (pieces_nil HM.out hp)
      rw [e0] at hc0
      rw [e1] at hc1
      clear hc2 hp e0 e1
      go_wp2
      refine wp_loop_rounds 1 ?_
      rw [rounds_succ]
      go_wp2
      go_round
      case rel => exact ⟨j + 1, by omega, by go_num, rfl⟩
      case measure => simp [intOf]; omega
    · clear hc2
      go_wp2
      go_ret
      exact ⟨rfl, hb2⟩
end Go.Proofs.Qxb6625648a
