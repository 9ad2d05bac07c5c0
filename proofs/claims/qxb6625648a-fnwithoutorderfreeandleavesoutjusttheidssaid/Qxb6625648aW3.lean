/-
  without.
-/
import Derived.Test.Qxb6625648aW2
namespace Go.Proofs.Qxb6625648a
open Go.RowKit

theorem own_push {w : World} {base : Nat} {v : Value} {X : List (Int × Int)} {q : Int × Int} (h : w.ownsRow base 32 2 v (X.length + 1) (flat X ++ [.int .u32 q.1, .int .u32 q.2])) :
    w.ownsRow base 32 2 v (X ++ [q]).length (flat (X ++ [q])) := by
  rw [flat_append, List.length_append]; exact h
/-- what lies in a new block is still there behind an append to a row that was there before -/
theorem grow_cell {wr w1 w2 : World} {base : Nat} {v : Value} {n : Nat} {xs : List Value} {o : Nat} {u : Value} (hown : wr.ownsRow base 32 2 v n xs) (hg : w1.grownBy w2 v.ownBlock)
    (h : w1.cell? ⟨wr.heap.size, o, none⟩ = some u) : w2.cell? ⟨wr.heap.size, o, none⟩ = some u := by
  refine hg.cell h ?_
  intro e
  have := (hown.lt _ e.symm).2
  simp at this
theorem news_pair (w : World) (N : Nat) (hN : N = w.heap.size) (a c : Value) (t : TypeId) : ∀ j u, [a, c][j]? = some u → (w.alloc (.cells #[a, c] t)).cell? ((⟨N, 0, none⟩ : Addr).add j) = some u := by
  subst hN; exact cell_two_new w a c t
theorem one_pair (a b : Int) : ∀ u ∈ [Value.int .u32 a, Value.int .u32 b], u.oneCell' = true := by
  intro u hu
  simp only [List.mem_cons, List.not_mem_nil, or_false] at hu
  rcases hu with rfl | rfl <;> rfl
theorem below_app {w wr w1 w2 : World} {v : Value} {n : Nat} {xs : List Value} (hown : wr.ownsRow w.heap.size 32 2 v n xs) (h1 : Below w.heap.size w w1) (hg : w1.grownBy w2 v.ownBlock) : Below w.heap.size w w2 :=
  h1.grown hg h1.size (fun k hk => (hown.lt k hk).1)

set_option maxHeartbeats 2000000 in
theorem without_some (b off cap : Nat) (L : List (Int × Int)) (id : Int) (w : World) (hl : L.length ≤ 1048576) (hu : U32s L) (hid : U32 id) (hf : L.all fits = true) (hlt0 : b < w.heap.size) (hc : At w b off L) :
    Calls Try.prog 11 #[.slice (some ⟨b, off, none⟩) L.length cap, .int .u32 id] w fun e w' => ∃ v', e = .returned v' ∧
      w'.ownsRow w.heap.size 32 2 v' (wo id L).length (flat (wo id L)) ∧ (wo id L = [] → v' = .slice none 0 0) ∧ Below w.heap.size w w' := by
  obtain ⟨i0, hi, hz0, hz1, hz2⟩ := info_parts info32
  obtain ⟨d0, d1⟩ := hid
  have HF : Hid (L.all fits = true) := hf
  clear hf
  go_enter Try.func11, Try.ntmps11
  go_wp2
  go_loopw [5, 11] (fun v i wr => ∃ (k : Nat), k ≤ L.length ∧ i = .int .i64 k ∧ wr.ownsRow w.heap.size 32 2 v (wo id (L.take k)).length (flat (wo id (L.take k))) ∧ (wo id (L.take k) = [] → v = .slice none 0 0) ∧ Below w.heap.size w wr) (fun _ i _ => L.length - (intOf i).toNat)
  case atStart => exact ⟨0, Nat.zero_le _, rfl, by simpa [wo, flat] using World.ownsRow_nil _ _ _ _, fun _ => rfl, Below.refl _ _⟩
  case round =>
    obtain ⟨k, hk, rfl, hown, hnil, hbel⟩ := hrel
    by_cases hlt : k < L.length
    · obtain ⟨p, hp⟩ : ∃ p, L[k]? = some p := ⟨_, List.getElem?_eq_getElem hlt⟩
      obtain ⟨hc0', hc1'⟩ := hc k p hp
      have hc0 := (hbel.cell (p := ⟨b, off + k * 2, none⟩) hlt0).trans hc0'
      have hc1 := (hbel.cell (p := ⟨b, off + k * 2 + 1, none⟩) hlt0).trans hc1'
      obtain ⟨⟨u0, u1⟩, u2, u3⟩ := hu p (List.mem_of_getElem? hp)
      have hfp := all_fits HF.out p (List.mem_of_getElem? hp)
      have hwl := wo_take_len id L k
      have hbs := hbel.size
      have HT : Hid (wo id (L.take (k + 1)) = wo id (L.take k) ++ piece id p) := wo_take id hp
      have HN : Hid (wo id (L.take k) = [] → u5 = .slice none 0 0) := hnil
      clear hc0' hc1' hc hu hp hnil
      by_cases h1 : id < p.1
      · skip
        have HP : Hid (piece id p = [p]) := piece_out (Or.inl h1)
        go_wp2_with (at_builtin; refine wpList_append_own _ rfl _ _ 26 rfl w.heap.size 32 i0 _ 2 8 Try.underlying26 hi hz0 hz1 hz2 rfl (by decide) _ _ _ rfl ((hown.alloc _).alloc _) ⟨wr.heap.size + 1, 0, none⟩ 1 1 [.int .u32 (p.1), .int .u32 (p.2)] rfl rfl (news_pair (wr.alloc _) _ (by simp) _ _ _) (one_pair _ _) (by unfold maxLen; (try simp only [List.length_append, List.length_cons, List.length_nil]); omega) (by (try simp only [List.length_append, List.length_cons, List.length_nil]); omega) (by simp; omega) ?_)
        intro v' w2 hown' hgrow hiff
        have hb2 := below_app hown ((hbel.alloc (by omega) _).alloc (by simp; omega) _) hgrow
        have ho2 := own_push hown'
        clear hown' hgrow hown hc0 hc1
        go_wp2
        go_roundw
        case rel => exact ⟨k + 1, by omega, by go_num, by rw [HT.out, HP.out]; exact ho2, by rw [HT.out, HP.out]; simp, hb2⟩
        case measure => simp [intOf]; omega
      by_cases h2 : p.1 + p.2 ≤ id
      · skip
        have HP : Hid (piece id p = [p]) := piece_out (Or.inr h2)
        go_wp2_with (at_builtin; refine wpList_append_own _ rfl _ _ 26 rfl w.heap.size 32 i0 _ 2 8 Try.underlying26 hi hz0 hz1 hz2 rfl (by decide) _ _ _ rfl ((hown.alloc _).alloc _) ⟨wr.heap.size + 1, 0, none⟩ 1 1 [.int .u32 (p.1), .int .u32 (p.2)] rfl rfl (news_pair (wr.alloc _) _ (by simp) _ _ _) (one_pair _ _) (by unfold maxLen; (try simp only [List.length_append, List.length_cons, List.length_nil]); omega) (by (try simp only [List.length_append, List.length_cons, List.length_nil]); omega) (by simp; omega) ?_)
        intro v' w2 hown' hgrow hiff
        have hb2 := below_app hown ((hbel.alloc (by omega) _).alloc (by simp; omega) _) hgrow
        have ho2 := own_push hown'
        clear hown' hgrow hown hc0 hc1
        go_wp2
        go_roundw
        case rel => exact ⟨k + 1, by omega, by go_num, by rw [HT.out, HP.out]; exact ho2, by rw [HT.out, HP.out]; simp, hb2⟩
        case measure => simp [intOf]; omega
      have h1' : p.1 ≤ id := by omega
      have h2' : id < p.1 + p.2 := by omega
      clear h1 h2
      have hm : (p.1 + p.2 - 1) % 4294967296 = p.1 + p.2 - 1 := Int.emod_eq_of_lt (by omega) (by omega)
      by_cases h3 : p.1 < id
      · by_cases h4 : id < p.1 + p.2 - 1
        · have HP : Hid (piece id p = [(p.1, id - p.1)] ++ [(id + 1, p.1 + p.2 - 1 - id)]) := by rw [piece_in h1' h2', if_pos h3, if_pos h4]; rfl
          go_wp2_with (at_builtin; refine wpList_append_own _ rfl _ _ 26 rfl w.heap.size 32 i0 _ 2 8 Try.underlying26 hi hz0 hz1 hz2 rfl (by decide) _ _ _ rfl ((hown.alloc _).alloc _) ⟨wr.heap.size + 1, 0, none⟩ 1 1 [.int .u32 (p.1), .int .u32 (id - p.1)] rfl rfl (news_pair (wr.alloc _) _ (by simp) _ _ _) (one_pair _ _) (by unfold maxLen; (try simp only [List.length_append, List.length_cons, List.length_nil]); omega) (by (try simp only [List.length_append, List.length_cons, List.length_nil]); omega) (by simp; omega) ?_)
          intro v' w2 hown' hgrow hiff
          have hb2 := below_app hown ((hbel.alloc (by omega) _).alloc (by simp; omega) _) hgrow
          have ho2 := own_push (q := (p.1, id - p.1)) hown'
          have hk0 : w2.cell? ⟨wr.heap.size, 0, none⟩ = some (.int .u32 p.1) := grow_cell hown hgrow (by go_simp)
          have hk1 : w2.cell? ⟨wr.heap.size, 1, none⟩ = some (.int .u32 p.2) := grow_cell hown hgrow (by go_simp)
          have hbs2 := hb2.size
          clear hown' hgrow hown hc0 hc1
          go_wp2_with (at_builtin; refine wpList_append_own _ rfl _ _ 26 rfl w.heap.size 32 i0 _ 2 8 Try.underlying26 hi hz0 hz1 hz2 rfl (by decide) _ _ _ rfl (ho2.alloc _) ⟨w2.heap.size, 0, none⟩ 1 1 [.int .u32 (id + 1), .int .u32 (p.1 + p.2 - 1 - id)] rfl rfl (news_pair w2 _ rfl _ _ _) (one_pair _ _) (by unfold maxLen; (try simp only [List.length_append, List.length_cons, List.length_nil]); omega) (by (try simp only [List.length_append, List.length_cons, List.length_nil]); omega) (by simp; omega) ?_)
          intro v3 w3 hown3 hgrow3 hiff3
          have hb3 := below_app ho2 (hb2.alloc (by omega) _) hgrow3
          have ho3 := own_push (X := wo id (L.take k) ++ [(p.1, id - p.1)]) (q := (id + 1, p.1 + p.2 - 1 - id)) (by rw [List.length_append]; exact hown3)
          rw [List.append_assoc] at ho3
          clear hown3 hgrow3 ho2 hk0 hk1
          go_wp2
          go_roundw
          case rel => exact ⟨k + 1, by omega, by go_num, by rw [HT.out, HP.out]; exact ho3, by rw [HT.out, HP.out]; simp, hb3⟩
          case measure => simp [intOf]; omega
        · have HP : Hid (piece id p = [(p.1, id - p.1)]) := by rw [piece_in h1' h2', if_pos h3, if_neg h4]; rfl
          go_wp2_with (at_builtin; refine wpList_append_own _ rfl _ _ 26 rfl w.heap.size 32 i0 _ 2 8 Try.underlying26 hi hz0 hz1 hz2 rfl (by decide) _ _ _ rfl ((hown.alloc _).alloc _) ⟨wr.heap.size + 1, 0, none⟩ 1 1 [.int .u32 (p.1), .int .u32 (id - p.1)] rfl rfl (news_pair (wr.alloc _) _ (by simp) _ _ _) (one_pair _ _) (by unfold maxLen; (try simp only [List.length_append, List.length_cons, List.length_nil]); omega) (by (try simp only [List.length_append, List.length_cons, List.length_nil]); omega) (by simp; omega) ?_)
          intro v' w2 hown' hgrow hiff
          have hb2 := below_app hown ((hbel.alloc (by omega) _).alloc (by simp; omega) _) hgrow
          have ho2 := own_push (q := (p.1, id - p.1)) hown'
          have hk0 : w2.cell? ⟨wr.heap.size, 0, none⟩ = some (.int .u32 p.1) := grow_cell hown hgrow (by go_simp)
          have hk1 : w2.cell? ⟨wr.heap.size, 1, none⟩ = some (.int .u32 p.2) := grow_cell hown hgrow (by go_simp)
          clear hown' hgrow hown hc0 hc1
          go_wp2
          go_roundw
          case rel => exact ⟨k + 1, by omega, by go_num, by rw [HT.out, HP.out]; exact ho2, by rw [HT.out, HP.out]; simp, hb2⟩
          case measure => simp [intOf]; omega
      · by_cases h4 : id < p.1 + p.2 - 1
        · have HP : Hid (piece id p = [(id + 1, p.1 + p.2 - 1 - id)]) := by rw [piece_in h1' h2', if_neg h3, if_pos h4]; rfl
          go_wp2_with (at_builtin; refine wpList_append_own _ rfl _ _ 26 rfl w.heap.size 32 i0 _ 2 8 Try.underlying26 hi hz0 hz1 hz2 rfl (by decide) _ _ _ rfl ((hown.alloc _).alloc _) ⟨wr.heap.size + 1, 0, none⟩ 1 1 [.int .u32 (id + 1), .int .u32 (p.1 + p.2 - 1 - id)] rfl rfl (news_pair (wr.alloc _) _ (by simp) _ _ _) (one_pair _ _) (by unfold maxLen; (try simp only [List.length_append, List.length_cons, List.length_nil]); omega) (by (try simp only [List.length_append, List.length_cons, List.length_nil]); omega) (by simp; omega) ?_)
          intro v' w2 hown' hgrow hiff
          have hb2 := below_app hown ((hbel.alloc (by omega) _).alloc (by simp; omega) _) hgrow
          have ho2 := own_push (q := (id + 1, p.1 + p.2 - 1 - id)) hown'
          clear hown' hgrow hown hc0 hc1
          go_wp2
          go_roundw
          case rel => exact ⟨k + 1, by omega, by go_num, by rw [HT.out, HP.out]; exact ho2, by rw [HT.out, HP.out]; simp, hb2⟩
          case measure => simp [intOf]; omega
        · have HP : Hid (piece id p = []) := by rw [piece_in h1' h2', if_neg h3, if_neg h4]; rfl
          go_wp2
          go_roundw
          case rel => exact ⟨k + 1, by omega, by go_num, by rw [HT.out, HP.out, List.append_nil]; exact hown.alloc _, by rw [HT.out, HP.out, List.append_nil]; exact HN.out, hbel.alloc (by omega) _⟩
          case measure => simp [intOf]; omega
    · have HE : Hid (wo id (L.take k) = wo id L) := by rw [List.take_of_length_le (by omega)]; rfl
      have HN : Hid (wo id (L.take k) = [] → u5 = .slice none 0 0) := hnil
      clear hc hu hnil
      go_wp2
      go_ret
      exact ⟨_, rfl, by rw [← HE.out]; exact hown, by rw [← HE.out]; exact HN.out, hbel⟩

set_option maxHeartbeats 400000 in
theorem without_none (ad : Option Addr) (cap : Nat) (id : Int) (w : World) :
    Calls Try.prog 11 #[.slice ad 0 cap, .int .u32 id] w fun e w' => e = .returned (.slice none 0 0) ∧ w' = w := by
  go_enter Try.func11, Try.ntmps11
  go_wp2
  refine wp_loop_rounds 1 ?_
  rw [rounds_succ]
  go_wp2
  go_ret
  exact ⟨rfl, rfl⟩

/-- What without hands back: the ranges 'wo id L' in new memory; nil exactly when there is none. -/
def Out (w w' : World) (v' : Value) (M : List (Int × Int)) : Prop := w'.ownsRow w.heap.size 32 2 v' M.length (flat M) ∧ (M = [] → v' = .slice none 0 0) ∧ Below w.heap.size w w'

theorem without_any (v : Value) (L : List (Int × Int)) (id : Int) (w : World) (hl : L.length ≤ 1048576) (hu : U32s L) (hid : U32 id) (hf : L.all fits = true) (hs : Sees w v L) :
    Calls Try.prog 11 #[v, .int .u32 id] w fun e w' => ∃ v', e = .returned v' ∧ Out w w' v' (wo id L) := by
  obtain ⟨ad, cap, rfl, h⟩ := hs
  rcases h with rfl | ⟨b, off, rfl, hlt, hat⟩
  · refine (without_none ad cap id w).mono fun e w' ⟨he, hw⟩ => ⟨_, he, ?_⟩
    subst hw
    exact ⟨World.ownsRow_nil _ _ _ _, fun _ => rfl, Below.refl _ _⟩
  · exact without_some b off cap L id w hl hu hid hf hlt hat

set_option maxHeartbeats 400000 in
theorem zzwithout_any (v : Value) (L : List (Int × Int)) (id : Int) (w : World) (hl : L.length ≤ 1048576) (hu : U32s L) (hid : U32 id) (hf : L.all fits = true) (hs : Sees w v L) :
    Calls Try.prog 7 #[v, .int .u32 id] w fun e w' => ∃ v', e = .returned v' ∧ Out w w' v' (wo id L) := by
  have H := fun u => without_any v L id u hl hu hid hf
  go_enter Try.func7, Try.ntmps7
  go_wp2_with fail
  refine (H _ hs).mono ?_
  clear H
  rintro e w' ⟨v', rfl, ho⟩
  have HO : Hid (Out w w' v' (wo id L)) := ho
  clear ho
  go_wp2
  go_ret
  exact ⟨_, rfl, HO.out⟩
end Go.Proofs.Qxb6625648a
