/-
  The second law's walk.
-/
import Derived.Test.Qxb6625648aW4
namespace Go.Proofs.Qxb6625648a
open Go.RowKit
set_option maxRecDepth 100000

set_option maxHeartbeats 400000 in
theorem law4_long (ad : Option Addr) (len cap : Nat) (a b x : Int) (w : World) (h : (1048576 : Int) < len) :
    Calls Try.prog 4 #[.slice ad len cap, .int .u32 a, .int .u32 b, .int .u32 x] w fun e w' => e = .returned (.bool true) ∧ Below w.heap.size w w' := by
  go_enter Try.func4, Try.ntmps4
  go_wp2_with fail
  refine (bytes9_no _ _ _ _ _ _ _ h).mono ?_
  rintro e w' ⟨rfl, rfl⟩
  go_wp2
  go_ret
  exact ⟨rfl, Below.refl _ _⟩

set_option maxHeartbeats 400000 in
theorem law4_mid (ad : Option Addr) (len cap : Nat) (a b x : Int) (w : World) (h : (len : Int) ≤ 1048576) (h2 : (65536 : Int) < len) :
    Calls Try.prog 4 #[.slice ad len cap, .int .u32 a, .int .u32 b, .int .u32 x] w fun e w' => e = .returned (.bool true) ∧ Below w.heap.size w w' := by
  go_enter Try.func4, Try.ntmps4
  go_wp2_with fail
  refine (bytes9_yes _ _ _ _ _ _ _ h).mono ?_
  rintro e w' ⟨rfl, rfl⟩
  go_wp2
  go_ret
  exact ⟨rfl, Below.refl _ _⟩

set_option maxHeartbeats 400000 in
theorem law4_wraps (v : Value) (ad : Option Addr) (cap : Nat) (L : List (Int × Int)) (a b x : Int) (w : World) (hv : v = .slice ad L.length cap) (h2 : (L.length : Int) ≤ 65536) (hu : U32s L) (hs : Sees w v L) (hf : L.all fits = false) :
    Calls Try.prog 4 #[v, .int .u32 a, .int .u32 b, .int .u32 x] w fun e w' => e = .returned (.bool true) ∧ Below w.heap.size w w' := by
  subst hv
  have H := fun u => noWrap_any (.slice ad L.length cap) L u (by omega) hu
  rw [hf] at H
  clear hf hu
  go_enter Try.func4, Try.ntmps4
  go_wp2_with fail
  refine (bytes9_yes _ _ _ _ _ _ _ (by omega)).mono ?_
  rintro e w' ⟨rfl, hw⟩
  subst w'
  go_wp2_with fail
  refine (H _ hs).mono ?_
  clear H
  rintro e w' ⟨rfl, n, rfl⟩
  go_wp2
  go_ret
  exact ⟨rfl, below_drewN (Below.refl _ _) _⟩

/-- a slice that without handed back, in whatever world that kept it -/
theorem out_shape {w : World} {v : Value} {M : List (Int × Int)} (h : Sees w v M) : ∃ ad cap, v = .slice ad M.length cap := by
  obtain ⟨ad, cap, rfl, _⟩ := h
  exact ⟨ad, cap, rfl⟩
theorem out_sees {w w' : World} {v : Value} {M : List (Int × Int)} (h : Out w w' v M) : Sees w' v M := sees_of_own h.1

set_option maxHeartbeats 2000000 in
theorem law4_main (v : Value) (ad : Option Addr) (cap : Nat) (L : List (Int × Int)) (a b x : Int) (w : World) (hv : v = .slice ad L.length cap) (h2 : (L.length : Int) ≤ 65536) (hu : U32s L) (ha : U32 a) (hb : U32 b) (hx : U32 x) (hs : Sees w v L) (hn : v = .slice none 0 0 ∨ ∃ a n c, v = .slice (some a) n c) (hf : L.all fits = true) :
    Calls Try.prog 4 #[v, .int .u32 a, .int .u32 b, .int .u32 x] w fun e w' => e = .returned (.bool true) ∧ Below w.heap.size w w' := by
  have H6 := fun u hsu => noWrap_any v L u (by omega) hu hsu
  rw [hf] at H6
  have H8 := fun u hsu => toRanges_any v L u (by omega) hsu hn
  have la := wo_len a L
  have lb := wo_len b L
  have lab := wo_len b (wo a L)
  have Ha := fun v1 u hu1 => zzwithout_any v1 L a u (by omega) hu ha hf hu1
  have Hb := fun v1 u hu1 => zzwithout_any v1 L b u (by omega) hu hb hf hu1
  have Hab := fun v1 u hu1 => zzwithout_any v1 (wo a L) b u (by omega) (U32s_wo ha hu hf) hb (fits_wo hf) hu1
  have Hba := fun v1 u hu1 => zzwithout_any v1 (wo b L) a u (by omega) (U32s_wo hb hu hf) ha (fits_wo hf) hu1
  rw [wo_comm b a] at Hba
  have HcL := fun v1 u hu1 => cover_any v1 L x u (by omega) hu hx hu1
  have HcM := fun v1 u hu1 => cover_any v1 (wo b (wo a L)) x u (by omega) (U32s_wo hb (U32s_wo ha hu hf) (fits_wo hf)) hx hu1
  have HCV : Hid (cover x (wo b (wo a L)) = if x ≠ a ∧ x ≠ b then cover x L else 0) := cover_both a b x L
  obtain ⟨M, hM⟩ : ∃ M, M = wo b (wo a L) := ⟨_, rfl⟩
  rw [← hM] at lab Hab Hba HcM HCV
  clear hM hf hu
  subst hv
  obtain ⟨a0, a1⟩ := ha
  obtain ⟨b0, b1⟩ := hb
  obtain ⟨x0, x1⟩ := hx
  go_enter Try.func4, Try.ntmps4
  go_wp2_with fail
  refine (bytes9_yes _ _ _ _ _ _ _ (by omega)).mono ?_
  rintro e w' ⟨rfl, hw⟩
  subst w'
  go_wp2_with fail
  refine (H6 _ hs).mono ?_
  rintro e w' ⟨rfl, n, rfl⟩
  go_wp2_with fail
  refine (H8 (w.drewN n) (by exact hs)).mono ?_
  rintro e w1 ⟨v1, rfl, hs1, hb1⟩
  go_wp2_with fail
  refine (Ha _ _ hs1).mono ?_
  rintro e w2 ⟨v2, rfl, ho2⟩
  go_wp2_with fail
  refine (Hab _ _ (out_sees ho2)).mono ?_
  rintro e w3 ⟨v3, rfl, ho3⟩
  have hs3 := out_sees ho3
  have hb3 := ho2.2.2.trans (ho3.2.2.mono ho2.2.2.size)
  have hs1' := hs1.below hb3
  obtain ⟨ad3, cap3, rfl⟩ := out_shape hs3
  clear ho2 ho3
  go_wp2_with fail
  refine (Hb _ _ hs1').mono ?_
  rintro e w4 ⟨v4, rfl, ho4⟩
  go_wp2_with fail
  refine (Hba _ _ (out_sees ho4)).mono ?_
  rintro e w5 ⟨v5, rfl, ho5⟩
  have hs5 := out_sees ho5
  have hb5 := ho4.2.2.trans (ho5.2.2.mono ho4.2.2.size)
  have hs3' := hs3.below hb5
  have hs1'' := hs1'.below hb5
  have hbl : Below w.heap.size w w5 := (below_drewN (Below.refl _ w) n).trans (hb1.trans ((hb3.trans (hb5.mono hb3.size)).mono hb1.size))
  obtain ⟨ad5, cap5, rfl⟩ := out_shape hs5
  clear ho4 ho5 hs3 hs1' hs1 hb1 hb3 hb5 H6 H8 Ha Hb Hab Hba hs hn
  go_wp2
  go_loopw [12] (fun i wr => ∃ k : Nat, k ≤ M.length ∧ i = .int .i64 k ∧ ∃ n, wr = w5.drewN n) (fun i _ => M.length - (intOf i).toNat)
  case atStart => exact ⟨0, Nat.zero_le _, rfl, 0, rfl⟩
  case round =>
    obtain ⟨k, hk, rfl, n5, rfl⟩ := hrel
    by_cases hlt : k < M.length
    · obtain ⟨p, hp⟩ : ∃ p, M[k]? = some p := ⟨_, List.getElem?_eq_getElem hlt⟩
      obtain ⟨b3, off3, hc0, hc1, rfl⟩ : ∃ b3 off3, w5.cell? ⟨b3, off3 + k * 2, none⟩ = some (.int .u32 p.1) ∧ w5.cell? ⟨b3, off3 + k * 2 + 1, none⟩ = some (.int .u32 p.2) ∧ ad3 = some ⟨b3, off3, none⟩ := by
        obtain ⟨ad', cap', he, hq⟩ := hs3'
        simp only [Value.slice.injEq] at he
        rcases hq with rfl | ⟨b3, off3, h3, _, hat⟩
        · simp at hlt
        · exact ⟨b3, off3, (hat k p hp).1, (hat k p hp).2, he.1.trans h3⟩
      obtain ⟨b5, off5, hd0, hd1, rfl⟩ : ∃ b5 off5, w5.cell? ⟨b5, off5 + k * 2, none⟩ = some (.int .u32 p.1) ∧ w5.cell? ⟨b5, off5 + k * 2 + 1, none⟩ = some (.int .u32 p.2) ∧ ad5 = some ⟨b5, off5, none⟩ := by
        obtain ⟨ad', cap', he, hq⟩ := hs5
        simp only [Value.slice.injEq] at he
        rcases hq with rfl | ⟨b5, off5, h5, _, hat⟩
        · simp at hlt
        · exact ⟨b5, off5, (hat k p hp).1, (hat k p hp).2, he.1.trans h5⟩
      clear hp HcL HcM hs3' hs5 hs1''
      go_wp2
      go_quiet (fail)
      go_wp2
      go_roundw
      case rel => exact ⟨k + 1, by omega, by go_num, _, rfl⟩
      case measure => simp [intOf]; omega
    · clear hs5
      by_cases hxa : x = a
      · have HE : Hid (cover x M = 0) := by rw [HCV.out, if_neg (by omega)]; rfl
        subst hxa
        go_wp2_with fail
        refine (HcM _ (w5.drewN n5) (by exact hs3')).mono ?_
        clear HcL HcM hs3' hs1''
        rintro e w6 ⟨rfl, rfl⟩
        go_wp2
        go_ret
        exact ⟨ret_bool (by rw [HE.out]; rfl), below_drewN hbl _⟩
      by_cases hxb : x = b
      · have HE : Hid (cover x M = 0) := by rw [HCV.out, if_neg (by omega)]; rfl
        subst hxb
        go_wp2_with fail
        refine (HcM _ (w5.drewN n5) (by exact hs3')).mono ?_
        clear HcL HcM hs3' hs1''
        rintro e w6 ⟨rfl, rfl⟩
        go_wp2
        go_ret
        exact ⟨ret_bool (by rw [HE.out]; rfl), below_drewN hbl _⟩
      · have HE : Hid (cover x M = cover x L) := by rw [HCV.out, if_pos ⟨hxa, hxb⟩]; rfl
        have hna : (x != a) = true := by simpa using hxa
        have hnb : (x != b) = true := by simpa using hxb
        go_wp2_with fail
        refine (HcL _ (w5.drewN n5) (by exact hs1'')).mono ?_
        rintro e w6 ⟨rfl, rfl⟩
        go_wp2_with fail
        refine (HcM _ (w5.drewN n5) (by exact hs3')).mono ?_
        clear HcL HcM hs3' hs1''
        rintro e w6 ⟨rfl, rfl⟩
        go_wp2
        go_ret
        exact ⟨ret_bool (by rw [HE.out]; simp), below_drewN hbl _⟩
end Go.Proofs.Qxb6625648a
