/-
  The first law's walk: the main road.
-/
import Derived.Test.Qxb6625648aW5
namespace Go.Proofs.Qxb6625648a
open Go.RowKit
set_option maxRecDepth 100000

set_option maxHeartbeats 4000000 in
theorem law3_full (b off cap : Nat) (L : List (Int × Int)) (id : Int) (w : World) (h2 : (L.length : Int) ≤ 65536) (hu : U32s L) (hid : U32 id) (hf : L.all fits = true) (hlt0 : b < w.heap.size) (hc : At w b off L) (hM : wo id L ≠ []) :
    Calls Try.prog 3 #[.slice (some ⟨b, off, none⟩) L.length cap, .int .u32 id] w fun e w' => e = .returned (.bool true) ∧ Below w.heap.size w w' := by
  have hs : Sees w (.slice (some ⟨b, off, none⟩) L.length cap) L := ⟨_, _, rfl, Or.inr ⟨b, off, rfl, hlt0, hc⟩⟩
  have H6 := fun u hsu => noWrap_any (.slice (some ⟨b, off, none⟩) L.length cap) L u (by omega) hu hsu
  rw [hf] at H6
  have H8 := fun u hsu => toRanges_any (.slice (some ⟨b, off, none⟩) L.length cap) L u (by omega) hsu (Or.inr ⟨_, _, _, rfl⟩)
  have H7 := fun v1 u hu1 => zzwithout_any v1 L id u (by omega) hu hid hf hu1
  have hMl := wo_len id L
  have HF : Hid (∀ p ∈ L, p.1 + p.2 ≤ 4294967296) := all_fits hf
  obtain ⟨d0, d1⟩ := hid
  clear hf
  go_enter Try.func3, Try.ntmps3
  go_wp2_with fail
  refine (bytes5_yes _ _ _ _ _ (by omega)).mono ?_
  rintro e w' ⟨rfl, hw⟩
  subst w'
  go_wp2_with fail
  refine (H6 _ hs).mono ?_
  rintro e w' ⟨rfl, n, rfl⟩
  go_wp2_with fail
  refine (H8 (w.drewN n) (by exact hs)).mono ?_
  rintro e w1 ⟨v1, rfl, hs1, hb1⟩
  go_wp2_with fail
  refine (H7 _ _ hs1).mono ?_
  rintro e w2 ⟨v2, rfl, ho⟩
  obtain ⟨g, cap', rfl, hag⟩ := out_some ho hM
  have hq := fun u => Lib.run_eql_slice_nil (P := Try.prog) u 26 32 (some ⟨g, 0, none⟩) (wo id L).length cap' 0 0 Try.underlying26
  have hpos : 0 < (wo id L).length := List.length_pos_iff.2 hM
  have hb2 : Below w.heap.size w w2 := (below_drewN (Below.refl _ w) n).trans (hb1.trans (ho.2.2.mono hb1.size))
  have hc2 := hc.below hlt0 hb2
  clear H6 H7 H8 ho hb1 hs1 hc hs hM
  have HAT : Hid (∀ k j p q, L[k]? = some p → (piece id p)[j]? = some q → (wo id (L.take k)).length + j < (wo id L).length ∧ w2.cell? ⟨g, ((wo id (L.take k)).length + j) * 2, none⟩ = some (.int .u32 q.1) ∧ w2.cell? ⟨g, ((wo id (L.take k)).length + j) * 2 + 1, none⟩ = some (.int .u32 q.2)) := fun k j p q hp hqq => by
    have e := wo_at id hp hqq
    have := hag _ _ e
    rw [Nat.zero_add] at this
    exact ⟨(List.getElem?_eq_some_iff.1 e).1, this.1, this.2⟩
  clear hag
  have HLK : Hid (∀ k p, L[k]? = some p → (wo id (L.take (k + 1))).length = (wo id (L.take k)).length + (piece id p).length) := fun k p hp => by rw [wo_take id hp, List.length_append]
  have HLE : Hid (∀ k, (wo id (L.take k)).length ≤ 2 * k) := wo_take_len id L
  have HEND : Hid (∀ k, ¬ k < L.length → (wo id (L.take k)).length = (wo id L).length) := fun k hk => by rw [List.take_of_length_le (by omega)]
  obtain ⟨Mn, hMn⟩ : ∃ Mn, Mn = (wo id L).length := ⟨_, rfl⟩
  rw [← hMn] at hMl hpos hq HAT HEND ⊢
  clear hMn
  have hz0 : ((Mn : Int) == 0) = false := by rw [beq_eq_false_iff_ne]; omega
  go_wp2
  go_loopw [7, 8] (fun kk i wr => ∃ j : Nat, j ≤ L.length ∧ i = .int .i64 j ∧ kk = .int .i64 (wo id (L.take j)).length ∧ ∃ n, wr = w2.drewN n) (fun _ i _ => L.length - (intOf i).toNat)
  case atStart => exact ⟨0, Nat.zero_le _, rfl, rfl, 0, rfl⟩
  case round =>
    obtain ⟨j, hj, rfl, rfl, n2, rfl⟩ := hrel
    by_cases hlt : j < L.length
    · obtain ⟨p, hp⟩ : ∃ p, L[j]? = some p := ⟨_, List.getElem?_eq_getElem hlt⟩
      obtain ⟨hc0, hc1⟩ := hc2 j p hp
      obtain ⟨⟨u0, u1⟩, u2, u3⟩ := hu p (List.mem_of_getElem? hp)
      have hfp := HF.out p (List.mem_of_getElem? hp)
      have hat := fun i q => HAT.out j i p q hp
      have hK1 : Hid ((wo id (L.take (j + 1))).length = (wo id (L.take j)).length + (piece id p).length) := HLK.out j p hp
      have hK2 := HLE.out j
      obtain ⟨K, hKd⟩ : ∃ K, K = (wo id (L.take j)).length := ⟨_, rfl⟩
      rw [← hKd] at hat hK1 hK2 ⊢
      clear hc2 hp hu hKd
      by_cases h1 : id < p.1 ∨ p.1 + p.2 ≤ id
      · rw [piece_out h1] at hat hK1
        obtain ⟨g0, g1, g2⟩ := hat 0 p rfl
        simp only [Nat.add_zero] at g0 g1 g2
        clear hat
        have hKM : (K : Int) < (Mn : Int) := by omega
        by_cases hcz : p.2 = 0
        · rw [hcz] at hc1 g2 h1
          go_wp2_with fail
          go_quiet (fail)
          go_wp2
          go_roundw
          case rel => exact ⟨j + 1, by omega, by go_num, by rw [hK1.out]; go_num, _, rfl⟩
          case measure => simp [intOf]; omega
        rcases h1 with h1 | h1
        · skip
          go_wp2_with fail
          go_quiet (fail)
          go_wp2
          go_roundw
          case rel => exact ⟨j + 1, by omega, by go_num, by rw [hK1.out]; go_num, _, rfl⟩
          case measure => simp [intOf]; omega
        · have h1n : ¬ id < p.1 := by omega
          go_wp2_with fail
          go_quiet (fail)
          go_wp2
          go_roundw
          case rel => exact ⟨j + 1, by omega, by go_num, by rw [hK1.out]; go_num, _, rfl⟩
          case measure => simp [intOf]; omega
      have h1' : p.1 ≤ id := by omega
      have h2' : id < p.1 + p.2 := by omega
      have hcz : ¬ p.2 = 0 := by omega
      have hn1 : ¬ id < p.1 := by omega
      have hn2 : ¬ p.1 + p.2 ≤ id := by omega
      clear h1
      by_cases h3 : p.1 < id
      · by_cases h4 : id < p.1 + p.2 - 1
        · skip
          have hpc : piece id p = [(p.1, id - p.1), (id + 1, p.1 + p.2 - 1 - id)] := by rw [piece_in h1' h2', if_pos h3, if_pos h4]; rfl
          rw [hpc] at hat hK1
          clear hpc
          obtain ⟨g00, g01, g02⟩ := hat 0 ((p.1, id - p.1)) rfl
          simp only [Nat.add_zero] at g00 g01 g02
          obtain ⟨g10, g11, g12⟩ := hat 1 ((id + 1, p.1 + p.2 - 1 - id)) rfl
          dsimp only at g11 g12
          clear hat
          have hKM : (K : Int) + 1 < (Mn : Int) := by omega
          go_wp2_with fail
          refine wp_loop_rounds 3 ?_
          rw [rounds_succ]
          go_wp2
          rw [rounds_succ]
          go_wp2
          rw [rounds_succ]
          go_wp2
          go_roundw
          case rel => exact ⟨j + 1, by omega, by go_num, by rw [hK1.out]; go_num, _, rfl⟩
          case measure => simp [intOf]; omega
        · skip
          have hpc : piece id p = [(p.1, id - p.1)] := by rw [piece_in h1' h2', if_pos h3, if_neg h4]; rfl
          rw [hpc] at hat hK1
          clear hpc
          obtain ⟨g00, g01, g02⟩ := hat 0 ((p.1, id - p.1)) rfl
          simp only [Nat.add_zero] at g00 g01 g02
          clear hat
          have hKM : (K : Int) < (Mn : Int) := by omega
          go_wp2_with fail
          refine wp_loop_rounds 2 ?_
          rw [rounds_succ]
          go_wp2
          rw [rounds_succ]
          go_wp2
          go_roundw
          case rel => exact ⟨j + 1, by omega, by go_num, by rw [hK1.out]; go_num, _, rfl⟩
          case measure => simp [intOf]; omega
      · by_cases h4 : id < p.1 + p.2 - 1
        · skip
          have hpc : piece id p = [(id + 1, p.1 + p.2 - 1 - id)] := by rw [piece_in h1' h2', if_neg h3, if_pos h4]; rfl
          rw [hpc] at hat hK1
          clear hpc
          obtain ⟨g00, g01, g02⟩ := hat 0 ((id + 1, p.1 + p.2 - 1 - id)) rfl
          simp only [Nat.add_zero] at g00 g01 g02
          clear hat
          have hKM : (K : Int) < (Mn : Int) := by omega
          go_wp2_with fail
          refine wp_loop_rounds 2 ?_
          rw [rounds_succ]
          go_wp2
          rw [rounds_succ]
          go_wp2
          go_roundw
          case rel => exact ⟨j + 1, by omega, by go_num, by rw [hK1.out]; go_num, _, rfl⟩
          case measure => simp [intOf]; omega
        · skip
          have hpc : piece id p = [] := by rw [piece_in h1' h2', if_neg h3, if_neg h4]; rfl
          rw [hpc] at hat hK1
          clear hpc
          clear hat
          go_wp2_with fail
          refine wp_loop_rounds 1 ?_
          rw [rounds_succ]
          go_wp2
          go_roundw
          case rel => exact ⟨j + 1, by omega, by go_num, by rw [hK1.out]; go_num, _, rfl⟩
          case measure => simp [intOf]; omega
    · have hE : Hid ((wo id (L.take j)).length = Mn) := HEND.out j hlt
      clear hc2 hu
      go_wp2
      go_ret
      exact ⟨ret_bool (by simp [hE.out]), below_drewN hb2 _⟩
end Go.Proofs.Qxb6625648a
