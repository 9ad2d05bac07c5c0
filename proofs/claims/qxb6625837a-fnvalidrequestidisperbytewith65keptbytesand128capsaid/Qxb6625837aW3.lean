/-
  The per-byte law's walk.
-/
import Derived.Test.Qxb6625837aW2
import Derived.Laws.BytesString
import Derived.Deep.RegionWith
namespace Go.Proofs.Qxb6625837a
open Go.RowKit
set_option maxRecDepth 100000

theorem info5 : (Try.prog.info? 5).map (fun i => (i.zero, i.size, i.bytes)) = some (some (.int .u8 0), 1, 1) := by kernel_rfl

set_option maxHeartbeats 400000 in
theorem bytes8_yes (s : ByteArray) (w : World) (hs : (s.size : Int) ≤ 1048576) :
    Calls Try.prog 8 #[.string s] w fun e w' => e = .returned (.bool true) ∧ w' = w := by
  go_enter Try.func8, Try.ntmps8
  go_wp2
  go_ret
  exact ⟨rfl, rfl⟩

set_option maxHeartbeats 400000 in
theorem bytes8_no (s : ByteArray) (w : World) (hs : (1048576 : Int) < s.size) :
    Calls Try.prog 8 #[.string s] w fun e w' => e = .returned (.bool false) ∧ w' = w := by
  go_enter Try.func8, Try.ntmps8
  go_wp2
  go_ret
  exact ⟨rfl, rfl⟩

set_option maxHeartbeats 400000 in
theorem law4_long (s : ByteArray) (w : World) (hs : (1048576 : Int) < s.size) :
    Calls Try.prog 4 #[.string s] w fun e w' => e = .returned (.bool true) ∧ Below w.heap.size w w' := by
  go_enter Try.func4, Try.ntmps4
  go_wp2_with fail
  refine (bytes8_no _ _ hs).mono ?_
  rintro e w' ⟨rfl, hw⟩
  subst w'
  go_wp2
  go_ret
  exact ⟨rfl, Below.refl _ _⟩

/-- a contract whose answer is known -/
theorem zzv (s : ByteArray) (V : Bool) (w : World) (h : vld (nums s) = V) : Calls Try.prog 7 #[.string s] w fun e w' => e = .returned (.bool V) ∧ Below w.heap.size w w' := by
  subst h; exact zzvalid_any s w

/-- n copies of one byte -/
def runStr (c : UInt8) (n : Nat) : ByteArray := ⟨(List.replicate n c).toArray⟩
theorem nums_run (c : UInt8) (n : Nat) : nums (runStr c n) = List.replicate n (c.toNat : Int) := by simp [nums, runStr]
theorem vld_run (c : UInt8) (n : Nat) (h1 : 1 ≤ n) (h2 : n ≤ 128) : vld (nums (runStr c n)) = okn (c.toNat : Int) := by
  rw [nums_run]
  unfold vld
  rw [List.length_replicate, List.all_replicate]
  simp [h1, h2, show ¬ n = 0 by omega]
theorem vld_over (c : UInt8) (n : Nat) (h2 : 128 < n) : vld (nums (runStr c n)) = false := by
  rw [nums_run]
  unfold vld
  rw [List.length_replicate]
  simp [show ¬ n ≤ 128 by omega]

/-- how many of the bytes below k are kept -/
def cnt : Nat → Nat
  | 0 => 0
  | k + 1 => cnt k + if okn (k : Int) then 1 else 0
theorem cnt_le (k : Nat) : cnt k ≤ k := by
  induction k with
  | zero => exact Nat.le_refl _
  | succ k ih => unfold cnt; split <;> omega
theorem cnt_256 : cnt 256 = 65 := by decide +kernel

/-- string(b), b a row of n copies of one byte that the world holds -/
theorem conv_run {w : World} {g n cap : Nat} {c : UInt8} (hc : ∀ j, j < n → w.cell? ⟨g, j, none⟩ = some (.int .u8 (c.toNat : Int))) :
    (convert 24 9 (.slice (some ⟨g, 0, none⟩) n cap)).run Try.prog w = .ok (.string (runStr c n)) w := by
  have := run_convert_bytes_back (P := Try.prog) w 24 9 5 ⟨g, 0, none⟩ cap (List.replicate n c) Try.underlying24 Try.underlying5 Try.underlying9 (fun j hj => by
    rw [List.length_replicate] at hj
    rw [Addr.add_lit, Nat.zero_add, List.getElem_replicate]
    exact hc j hj)
  rw [List.length_replicate] at this
  exact this

theorem own_below {X w2 : World} {base : Nat} {e : TypeId} {size : Nat} {v : Value} {n : Nat} {xs : List Value} (h : X.ownsRow base e size v n xs) (hb : Below X.heap.size X w2) : w2.ownsRow base e size v n xs := by
  have hg : X.grownBy w2 none := ⟨hb.os, hb.tape, hb.output, hb.size, fun k hk _ => hb.block k hk⟩
  refine h.kept hg ?_
  cases hv : v.ownBlock
  · exact Or.inl rfl
  · exact Or.inr (by simp)
theorem ofNat_toNat {k : Nat} (h : k < 256) : ((UInt8.ofNat k).toNat : Int) = (k : Int) := by
  simp [Nat.mod_eq_of_lt h]

theorem nums_extract (s : ByteArray) (k : Nat) (n : Int) (h : (nums s)[k]? = some n) : nums (s.extract k (k + 1)) = [n] := by
  unfold nums at h ⊢
  rw [List.getElem?_map] at h
  obtain ⟨c, hc, rfl⟩ := Option.map_eq_some_iff.1 h
  have e : (s.extract k (k + 1)).data.toList = (s.data.toList.drop k).take 1 := by
    rw [ByteArray.data_extract, Array.toList_extract, List.extract_eq_take_drop]
    rw [show k + 1 - k = 1 from by omega]
  rw [e]
  have e2 : (s.data.toList.drop k).take 1 = [c] := by
    have hk : k < s.data.toList.length := (List.getElem?_eq_some_iff.1 hc).1
    rw [List.drop_eq_getElem_cons hk]
    rw [List.getElem?_eq_getElem hk] at hc
    simp at hc
    simp [hc]
  rw [e2]
  rfl
theorem vld_one (s : ByteArray) (k : Nat) (n : Int) (h : (nums s)[k]? = some n) : vld (nums (s.extract k (k + 1))) = okn n := by
  rw [nums_extract s k n h]
  simp [vld]
theorem vld_mid {s : ByteArray} (h1 : 1 ≤ s.size) (h2 : s.size ≤ 128) : vld (nums s) = (nums s).all okn := by
  unfold vld; rw [nums_len]; simp [h1, h2]
theorem vld_big {s : ByteArray} (h2 : 128 < s.size) : vld (nums s) = false := by
  unfold vld; rw [nums_len]; simp [show ¬ s.size ≤ 128 by omega]
theorem vld_nil {s : ByteArray} (h2 : s.size = 0) : vld (nums s) = false := by
  unfold vld; rw [nums_len]; simp [h2]

/-- one store of the third loop -/
theorem run_round {w : World} {base g k : Nat} {c : Value} {rest : List Value} (hlt : k < 129)
    (h : w.ownsRow base 5 1 (.slice (some ⟨g, 0, none⟩) 129 129) 129 (List.replicate k c ++ rest)) :
    ∃ rest', (w.setCell ⟨g, k, none⟩ c).ownsRow base 5 1 (.slice (some ⟨g, 0, none⟩) 129 129) 129 (List.replicate (k + 1) c ++ rest') := by
  have hr : rest.length = 129 - k := by have := h.1; rw [List.length_append, List.length_replicate] at this; omega
  match rest, hr with
  | [], hr => simp at hr; omega
  | x :: rest, _ =>
    refine ⟨rest, ?_⟩
    have := (h.stored k c).1
    rw [List.set_append_right _ _ (by rw [List.length_replicate]; exact Nat.le_refl _), List.length_replicate, Nat.sub_self, List.set_cons_zero] at this
    rw [List.replicate_succ', List.append_assoc]
    exact this
theorem run_end {w : World} {base g : Nat} {c : Value} {rest : List Value}
    (h : w.ownsRow base 5 1 (.slice (some ⟨g, 0, none⟩) 129 129) 129 (List.replicate 129 c ++ rest)) : ∀ j, j < 129 → w.cell? ⟨g, j, none⟩ = some c := by
  intro j hj
  rw [h.cellAt j (by omega), List.getElem?_append_left (by rw [List.length_replicate]; exact hj), List.getElem?_replicate, if_pos hj]

set_option maxHeartbeats 8000000 in
theorem law4_short (s : ByteArray) (w : World) (hpos : 0 < s.size) (hs : (s.size : Int) ≤ 1048576) :
    Calls Try.prog 4 #[.string s] w fun e w' => e = .returned (.bool true) ∧ Below w.heap.size w w' := by
  obtain ⟨i0, hi, hz0, hz1, hz2⟩ := info_parts info5
  go_enter Try.func4, Try.ntmps4
  go_wp2_with fail
  refine (bytes8_yes _ _ hs).mono ?_
  rintro e w' ⟨rfl, hw⟩
  subst w'
  go_wp2_with (at_make; refine wpList_make_full _ rfl _ _ 24 rfl w.heap.size 5 i0 _ 1 Try.underlying24 hi hz0 hz1 _ _ _ _ 1 rfl rfl rfl rfl (by rw [hz2]; omega) (by unfold maxLen; omega) (Nat.le_refl _) ?_)
  intro w1 hown1 hgrow1
  have hb1 : Below w.heap.size w w1 := (Below.refl _ w).grown hgrow1 (Nat.le_refl _) (fun k hk => by cases hk)
  clear hgrow1
  go_wp2
  go_loopw [3, 5] (fun n i wr => ∃ (k : Nat) (x : Value), k ≤ 256 ∧ i = .int .i64 k ∧ n = .int .i64 (cnt k) ∧ wr.ownsRow w.heap.size 5 1 (.slice (some ⟨w.heap.size, 0, none⟩) 1 1) 1 [x] ∧ Below w.heap.size w wr) (fun _ i _ => 256 - (intOf i).toNat)
  case atStart => exact ⟨0, .int .u8 0, Nat.zero_le _, rfl, rfl, by rw [toList_madeCells_one] at hown1; exact hown1, hb1⟩
  case round =>
    clear hown1 hb1
    obtain ⟨k, x, hk, rfl, rfl, hown, hbel⟩ := hrel
    have hcl := cnt_le k
    by_cases hlt : k < 256
    · have hd0 : wr.cell? ⟨w.heap.size, 0, none⟩ = some x := by rw [hown.cellAt 0 (by omega)]; rfl
      have hf0 := hown.frozenAt 0
      have hu := ofNat_toNat hlt
      have ho2 := (hown.stored 0 (.int .u8 (k : Int))).1
      have hcv : (convert 24 9 (.slice (some ⟨w.heap.size, 0, none⟩) 1 1)).run Try.prog (wr.setCell ⟨w.heap.size, 0, none⟩ (.int .u8 (k : Int))) = .ok (.string (runStr (UInt8.ofNat k) 1)) (wr.setCell ⟨w.heap.size, 0, none⟩ (.int .u8 (k : Int))) := by
        refine conv_run fun j hj => ?_
        obtain rfl : j = 0 := by omega
        rw [hu, ho2.cellAt 0 (by omega)]
        rfl
      have HV : Hid (vld (nums (runStr (UInt8.ofNat k) 1)) = okn (k : Int)) := by
        have := vld_run (UInt8.ofNat k) 1 (by omega) (by omega)
        rw [hu] at this
        exact this
      have HC : Hid (cnt (k + 1) = cnt k + if okn (k : Int) then 1 else 0) := rfl
      have hb2 : Below w.heap.size w (wr.setCell ⟨w.heap.size, 0, none⟩ (.int .u8 (k : Int))) := hbel.setCell (Nat.le_refl _) _
      clear hown hbel hu
      cases hok : okn (k : Int) with
      | true =>
        rw [hok] at HV HC
        go_wp2_with fail
        refine (zzv _ true _ HV.out).mono ?_
        rintro e w3 ⟨rfl, hb3⟩
        have ho3 := own_below ho2 hb3
        have hb4 := hb2.trans (hb3.mono hb2.size)
        clear ho2 hb2 hb3 hcv
        go_wp2
        go_roundw
        case rel => exact ⟨k + 1, _, by omega, by go_num, by rw [HC.out]; go_num, ho3, hb4⟩
        case measure => simp [intOf]; omega
      | false =>
        rw [hok] at HV HC
        go_wp2_with fail
        refine (zzv _ false _ HV.out).mono ?_
        rintro e w3 ⟨rfl, hb3⟩
        have ho3 := own_below ho2 hb3
        have hb4 := hb2.trans (hb3.mono hb2.size)
        clear ho2 hb2 hb3 hcv
        go_wp2
        go_roundw
        case rel => exact ⟨k + 1, _, by omega, by go_num, by rw [HC.out]; go_num, ho3, hb4⟩
        case measure => simp [intOf]; omega
    · obtain rfl : k = 256 := by omega
      rw [show ((cnt 256 : Nat) : Int) = 65 from by rw [cnt_256]; rfl, show (((256 : Nat)) : Int) = 256 from rfl]
      clear hown hcl
      go_wp2_with fail
      go_loopw [6, 7] (fun al i wr => ∃ k : Nat, k ≤ s.size ∧ i = .int .i64 k ∧ al = .bool true ∧ ((nums s).take k).all okn = true ∧ Below w.heap.size w wr) (fun _ i _ => s.size - (intOf i).toNat)
      case atStart => exact ⟨0, Nat.zero_le _, rfl, rfl, rfl, hbel⟩
      case round =>
        clear hbel
        obtain ⟨k, hk2, rfl, rfl, hall, hbel⟩ := hrel
        by_cases hlt2 : k < s.size
        · obtain ⟨n, hn⟩ : ∃ n, (nums s)[k]? = some n := ⟨_, List.getElem?_eq_getElem (by rw [nums_len]; exact hlt2)⟩
          have HV : Hid (vld (nums (s.extract k (k + 1))) = okn n) := vld_one s k n hn
          cases hok : okn n with
          | true =>
            have HN : Hid (((nums s).take (k + 1)).all okn = true) := all_step hn hall hok
            rw [hok] at HV
            clear hn hok hall
            go_wp2_with fail
            refine (zzv _ true _ HV.out).mono ?_
            rintro e w5 ⟨rfl, hb5⟩
            have hb6 := hbel.trans (hb5.mono hbel.size)
            clear hbel hb5
            go_wp2
            go_roundw
            case rel => exact ⟨k + 1, by omega, by go_num, rfl, HN.out, hb6⟩
            case measure => simp [intOf]; omega
          | false =>
            have HB : (nums s).all okn = false := all_stop hn hok
            rw [hok] at HV
            clear hn hok hall
            go_wp2_with fail
            refine (zzv _ false _ HV.out).mono ?_
            rintro e w4 ⟨rfl, hb5⟩
            have hbel := hbel.trans (hb5.mono hbel.size)
            clear hb5 hk2 hlt2 HV
            by_cases h128 : (s.size : Int) ≤ 128
            · skip
              have HVs : Hid (vld (nums s) = false) := by rw [vld_mid (by omega) (by omega)]; exact HB
              clear HB
              go_wp2_with fail
              refine (zzv s false _ HVs.out).mono ?_
              rintro e w5 ⟨rfl, hb5⟩
              have hb6 := hbel.trans (hb5.mono hbel.size)
              have hs6 := hb6.size
              clear hbel hb5
              go_wp2_with (at_make; refine wpList_make_full _ rfl _ _ 24 rfl w.heap.size 5 i0 _ 1 Try.underlying24 hi hz0 hz1 _ _ _ _ 129 rfl rfl rfl rfl (by rw [hz2]; omega) (by unfold maxLen; omega) hs6 ?_)
              intro w7 hown7 hgrow7
              have hb7 : Below w.heap.size w w7 := hb6.grown hgrow7 hs6 (fun k hk => by cases hk)
              clear hgrow7 hb6
              go_wp2
              go_loopw [9] (fun i wr => ∃ (k : Nat) (rest : List Value), k ≤ 129 ∧ i = .int .i64 k ∧ wr.ownsRow w.heap.size 5 1 (.slice (some ⟨w5.heap.size, 0, none⟩) 129 129) 129 (List.replicate k (.int .u8 (((s[0]'hpos).toNat : Nat) : Int)) ++ rest) ∧ Below w.heap.size w wr) (fun i _ => 129 - (intOf i).toNat)
              case atStart => exact ⟨0, _, Nat.zero_le _, rfl, hown7, hb7⟩
              case round =>
                clear hown7 hb7
                obtain ⟨k, rest, hk3, rfl, hown8, hb8⟩ := hrel
                by_cases hlt3 : k < 129
                · have hf8 := hown8.frozenAt k
                  obtain ⟨u8, hd8⟩ : ∃ u, wr.cell? ⟨w5.heap.size, k, none⟩ = some u := by
                    rw [hown8.cellAt k (by omega)]
                    exact ⟨_, List.getElem?_eq_getElem (by rw [hown8.1]; omega)⟩
                  have HR : Hid (∃ rest', (wr.setCell ⟨w5.heap.size, k, none⟩ (.int .u8 (((s[0]'hpos).toNat : Nat) : Int))).ownsRow w.heap.size 5 1 (.slice (some ⟨w5.heap.size, 0, none⟩) 129 129) 129 (List.replicate (k + 1) (.int .u8 (((s[0]'hpos).toNat : Nat) : Int)) ++ rest')) := run_round hlt3 hown8
                  clear hown8
                  go_wp2
                  go_roundw
                  case rel =>
                    obtain ⟨rest', hr⟩ := HR.out
                    exact ⟨k + 1, rest', by omega, by go_num, hr, hb8.setCell hs6 _⟩
                  case measure => simp [intOf]; omega
                · obtain rfl : k = 129 := by omega
                  have hrun := run_end hown8
                  have hg8 : w5.heap.size < wr.heap.size := World.block_lt_of_cell? _ _ (hrun 0 (by omega))
                  obtain ⟨V, hV⟩ : ∃ V, V = okn (((s[0]'hpos).toNat : Nat) : Int) := ⟨_, rfl⟩
                  obtain ⟨R, hR⟩ : ∃ R, R = runStr (s[0]'hpos) 128 := ⟨_, rfl⟩
                  obtain ⟨R2, hR2⟩ : ∃ R2, R2 = runStr (s[0]'hpos) 129 := ⟨_, rfl⟩
                  have hcv1 : (convert 24 9 (.slice (some ⟨w5.heap.size, 0, none⟩) 128 129)).run Try.prog wr.drew = .ok (.string R) wr.drew := by rw [hR]; exact conv_run fun j hj => (hrun j (by omega))
                  have HV1 : Hid (vld (nums R) = V) := by rw [hR, hV]; exact vld_run _ _ (by omega) (by omega)
                  have HV2 : Hid (vld (nums (s.extract 0 1)) = V) := by rw [hV]; exact vld_one s 0 _ (nums_get s 0 hpos)
                  have HV3 : Hid (vld (nums R2) = false) := by rw [hR2]; exact vld_over _ _ (by omega)
                  have HCV : Hid (∀ X, Below wr.heap.size wr X → (convert 24 9 (.slice (some ⟨w5.heap.size, 0, none⟩) 129 129)).run Try.prog X = .ok (.string R2) X) := fun X hX => by
                    rw [hR2]
                    exact conv_run fun j hj => (hX.cell (p := ⟨w5.heap.size, j, none⟩) hg8).trans (hrun j hj)
                  clear hown8 hV hR hR2 hrun
                  go_wp2_with fail
                  go_region_with (first | (go_at_call_of 7 (Value.string R); refine (zzv _ _ _ HV1.out).mono ?_; rintro e w8 ⟨rfl, hc8⟩) | (go_at_call_of 7 (Value.string (s.extract 0 1)); refine (zzv _ _ _ HV2.out).mono ?_; rintro e w9 ⟨rfl, hc9⟩))
                  have hX : Below wr.heap.size wr w9 := ((Below.refl _ wr).drew.trans hc8).trans (hc9.mono hc8.size)
                  have hY : Below w.heap.size w w9 := hb8.trans (hX.mono hb8.size)
                  have hcv2 := HCV.out w9 hX
                  clear hX hb8 hc8 hc9 hcv1 HCV
                  go_wp2_with fail
                  refine (zzv _ _ _ HV3.out).mono ?_
                  rintro e w10 ⟨rfl, hc10⟩
                  go_wp2
                  go_ret
                  exact ⟨rfl, hY.trans (hc10.mono hY.size)⟩
            · skip
              have HVs : Hid (vld (nums s) = false) := vld_big (by omega)
              clear HB
              go_wp2_with fail
              refine (zzv s false _ HVs.out).mono ?_
              rintro e w5 ⟨rfl, hb5⟩
              have hb6 := hbel.trans (hb5.mono hbel.size)
              have hs6 := hb6.size
              clear hbel hb5
              go_wp2_with (at_make; refine wpList_make_full _ rfl _ _ 24 rfl w.heap.size 5 i0 _ 1 Try.underlying24 hi hz0 hz1 _ _ _ _ 129 rfl rfl rfl rfl (by rw [hz2]; omega) (by unfold maxLen; omega) hs6 ?_)
              intro w7 hown7 hgrow7
              have hb7 : Below w.heap.size w w7 := hb6.grown hgrow7 hs6 (fun k hk => by cases hk)
              clear hgrow7 hb6
              go_wp2
              go_loopw [9] (fun i wr => ∃ (k : Nat) (rest : List Value), k ≤ 129 ∧ i = .int .i64 k ∧ wr.ownsRow w.heap.size 5 1 (.slice (some ⟨w5.heap.size, 0, none⟩) 129 129) 129 (List.replicate k (.int .u8 (((s[0]'hpos).toNat : Nat) : Int)) ++ rest) ∧ Below w.heap.size w wr) (fun i _ => 129 - (intOf i).toNat)
              case atStart => exact ⟨0, _, Nat.zero_le _, rfl, hown7, hb7⟩
              case round =>
                clear hown7 hb7
                obtain ⟨k, rest, hk3, rfl, hown8, hb8⟩ := hrel
                by_cases hlt3 : k < 129
                · have hf8 := hown8.frozenAt k
                  obtain ⟨u8, hd8⟩ : ∃ u, wr.cell? ⟨w5.heap.size, k, none⟩ = some u := by
                    rw [hown8.cellAt k (by omega)]
                    exact ⟨_, List.getElem?_eq_getElem (by rw [hown8.1]; omega)⟩
                  have HR : Hid (∃ rest', (wr.setCell ⟨w5.heap.size, k, none⟩ (.int .u8 (((s[0]'hpos).toNat : Nat) : Int))).ownsRow w.heap.size 5 1 (.slice (some ⟨w5.heap.size, 0, none⟩) 129 129) 129 (List.replicate (k + 1) (.int .u8 (((s[0]'hpos).toNat : Nat) : Int)) ++ rest')) := run_round hlt3 hown8
                  clear hown8
                  go_wp2
                  go_roundw
                  case rel =>
                    obtain ⟨rest', hr⟩ := HR.out
                    exact ⟨k + 1, rest', by omega, by go_num, hr, hb8.setCell hs6 _⟩
                  case measure => simp [intOf]; omega
                · obtain rfl : k = 129 := by omega
                  have hrun := run_end hown8
                  have hg8 : w5.heap.size < wr.heap.size := World.block_lt_of_cell? _ _ (hrun 0 (by omega))
                  obtain ⟨V, hV⟩ : ∃ V, V = okn (((s[0]'hpos).toNat : Nat) : Int) := ⟨_, rfl⟩
                  obtain ⟨R, hR⟩ : ∃ R, R = runStr (s[0]'hpos) 128 := ⟨_, rfl⟩
                  obtain ⟨R2, hR2⟩ : ∃ R2, R2 = runStr (s[0]'hpos) 129 := ⟨_, rfl⟩
                  have hcv1 : (convert 24 9 (.slice (some ⟨w5.heap.size, 0, none⟩) 128 129)).run Try.prog wr.drew = .ok (.string R) wr.drew := by rw [hR]; exact conv_run fun j hj => (hrun j (by omega))
                  have HV1 : Hid (vld (nums R) = V) := by rw [hR, hV]; exact vld_run _ _ (by omega) (by omega)
                  have HV2 : Hid (vld (nums (s.extract 0 1)) = V) := by rw [hV]; exact vld_one s 0 _ (nums_get s 0 hpos)
                  have HV3 : Hid (vld (nums R2) = false) := by rw [hR2]; exact vld_over _ _ (by omega)
                  have HCV : Hid (∀ X, Below wr.heap.size wr X → (convert 24 9 (.slice (some ⟨w5.heap.size, 0, none⟩) 129 129)).run Try.prog X = .ok (.string R2) X) := fun X hX => by
                    rw [hR2]
                    exact conv_run fun j hj => (hX.cell (p := ⟨w5.heap.size, j, none⟩) hg8).trans (hrun j hj)
                  clear hown8 hV hR hR2 hrun
                  go_wp2_with fail
                  go_region_with (first | (go_at_call_of 7 (Value.string R); refine (zzv _ _ _ HV1.out).mono ?_; rintro e w8 ⟨rfl, hc8⟩) | (go_at_call_of 7 (Value.string (s.extract 0 1)); refine (zzv _ _ _ HV2.out).mono ?_; rintro e w9 ⟨rfl, hc9⟩))
                  have hX : Below wr.heap.size wr w9 := ((Below.refl _ wr).drew.trans hc8).trans (hc9.mono hc8.size)
                  have hY : Below w.heap.size w w9 := hb8.trans (hX.mono hb8.size)
                  have hcv2 := HCV.out w9 hX
                  clear hX hb8 hc8 hc9 hcv1 HCV
                  go_wp2_with fail
                  refine (zzv _ _ _ HV3.out).mono ?_
                  rintro e w10 ⟨rfl, hc10⟩
                  go_wp2
                  go_ret
                  exact ⟨rfl, hY.trans (hc10.mono hY.size)⟩
        · have HB : (nums s).all okn = true := by rw [List.take_of_length_le (by rw [nums_len]; omega)] at hall; exact hall
          clear hall
          by_cases h128 : (s.size : Int) ≤ 128
          · skip
            have HVs : Hid (vld (nums s) = true) := by rw [vld_mid (by omega) (by omega)]; exact HB
            clear HB
            go_wp2_with fail
            refine (zzv s true _ HVs.out).mono ?_
            rintro e w5 ⟨rfl, hb5⟩
            have hb6 := hbel.trans (hb5.mono hbel.size)
            have hs6 := hb6.size
            clear hbel hb5
            go_wp2_with (at_make; refine wpList_make_full _ rfl _ _ 24 rfl w.heap.size 5 i0 _ 1 Try.underlying24 hi hz0 hz1 _ _ _ _ 129 rfl rfl rfl rfl (by rw [hz2]; omega) (by unfold maxLen; omega) hs6 ?_)
            intro w7 hown7 hgrow7
            have hb7 : Below w.heap.size w w7 := hb6.grown hgrow7 hs6 (fun k hk => by cases hk)
            clear hgrow7 hb6
            go_wp2
            go_loopw [9] (fun i wr => ∃ (k : Nat) (rest : List Value), k ≤ 129 ∧ i = .int .i64 k ∧ wr.ownsRow w.heap.size 5 1 (.slice (some ⟨w5.heap.size, 0, none⟩) 129 129) 129 (List.replicate k (.int .u8 (((s[0]'hpos).toNat : Nat) : Int)) ++ rest) ∧ Below w.heap.size w wr) (fun i _ => 129 - (intOf i).toNat)
            case atStart => exact ⟨0, _, Nat.zero_le _, rfl, hown7, hb7⟩
            case round =>
              clear hown7 hb7
              obtain ⟨k, rest, hk3, rfl, hown8, hb8⟩ := hrel
              by_cases hlt3 : k < 129
              · have hf8 := hown8.frozenAt k
                obtain ⟨u8, hd8⟩ : ∃ u, wr.cell? ⟨w5.heap.size, k, none⟩ = some u := by
                  rw [hown8.cellAt k (by omega)]
                  exact ⟨_, List.getElem?_eq_getElem (by rw [hown8.1]; omega)⟩
                have HR : Hid (∃ rest', (wr.setCell ⟨w5.heap.size, k, none⟩ (.int .u8 (((s[0]'hpos).toNat : Nat) : Int))).ownsRow w.heap.size 5 1 (.slice (some ⟨w5.heap.size, 0, none⟩) 129 129) 129 (List.replicate (k + 1) (.int .u8 (((s[0]'hpos).toNat : Nat) : Int)) ++ rest')) := run_round hlt3 hown8
                clear hown8
                go_wp2
                go_roundw
                case rel =>
                  obtain ⟨rest', hr⟩ := HR.out
                  exact ⟨k + 1, rest', by omega, by go_num, hr, hb8.setCell hs6 _⟩
                case measure => simp [intOf]; omega
              · obtain rfl : k = 129 := by omega
                have hrun := run_end hown8
                have hg8 : w5.heap.size < wr.heap.size := World.block_lt_of_cell? _ _ (hrun 0 (by omega))
                obtain ⟨V, hV⟩ : ∃ V, V = okn (((s[0]'hpos).toNat : Nat) : Int) := ⟨_, rfl⟩
                obtain ⟨R, hR⟩ : ∃ R, R = runStr (s[0]'hpos) 128 := ⟨_, rfl⟩
                obtain ⟨R2, hR2⟩ : ∃ R2, R2 = runStr (s[0]'hpos) 129 := ⟨_, rfl⟩
                have hcv1 : (convert 24 9 (.slice (some ⟨w5.heap.size, 0, none⟩) 128 129)).run Try.prog wr.drew = .ok (.string R) wr.drew := by rw [hR]; exact conv_run fun j hj => (hrun j (by omega))
                have HV1 : Hid (vld (nums R) = V) := by rw [hR, hV]; exact vld_run _ _ (by omega) (by omega)
                have HV2 : Hid (vld (nums (s.extract 0 1)) = V) := by rw [hV]; exact vld_one s 0 _ (nums_get s 0 hpos)
                have HV3 : Hid (vld (nums R2) = false) := by rw [hR2]; exact vld_over _ _ (by omega)
                have HCV : Hid (∀ X, Below wr.heap.size wr X → (convert 24 9 (.slice (some ⟨w5.heap.size, 0, none⟩) 129 129)).run Try.prog X = .ok (.string R2) X) := fun X hX => by
                  rw [hR2]
                  exact conv_run fun j hj => (hX.cell (p := ⟨w5.heap.size, j, none⟩) hg8).trans (hrun j hj)
                clear hown8 hV hR hR2 hrun
                go_wp2_with fail
                go_region_with (first | (go_at_call_of 7 (Value.string R); refine (zzv _ _ _ HV1.out).mono ?_; rintro e w8 ⟨rfl, hc8⟩) | (go_at_call_of 7 (Value.string (s.extract 0 1)); refine (zzv _ _ _ HV2.out).mono ?_; rintro e w9 ⟨rfl, hc9⟩))
                have hX : Below wr.heap.size wr w9 := ((Below.refl _ wr).drew.trans hc8).trans (hc9.mono hc8.size)
                have hY : Below w.heap.size w w9 := hb8.trans (hX.mono hb8.size)
                have hcv2 := HCV.out w9 hX
                clear hX hb8 hc8 hc9 hcv1 HCV
                go_wp2_with fail
                refine (zzv _ _ _ HV3.out).mono ?_
                rintro e w10 ⟨rfl, hc10⟩
                go_wp2
                go_ret
                exact ⟨rfl, hY.trans (hc10.mono hY.size)⟩
          · skip
            have HVs : Hid (vld (nums s) = false) := vld_big (by omega)
            clear HB
            go_wp2_with fail
            refine (zzv s false _ HVs.out).mono ?_
            rintro e w5 ⟨rfl, hb5⟩
            have hb6 := hbel.trans (hb5.mono hbel.size)
            have hs6 := hb6.size
            clear hbel hb5
            go_wp2_with (at_make; refine wpList_make_full _ rfl _ _ 24 rfl w.heap.size 5 i0 _ 1 Try.underlying24 hi hz0 hz1 _ _ _ _ 129 rfl rfl rfl rfl (by rw [hz2]; omega) (by unfold maxLen; omega) hs6 ?_)
            intro w7 hown7 hgrow7
            have hb7 : Below w.heap.size w w7 := hb6.grown hgrow7 hs6 (fun k hk => by cases hk)
            clear hgrow7 hb6
            go_wp2
            go_loopw [9] (fun i wr => ∃ (k : Nat) (rest : List Value), k ≤ 129 ∧ i = .int .i64 k ∧ wr.ownsRow w.heap.size 5 1 (.slice (some ⟨w5.heap.size, 0, none⟩) 129 129) 129 (List.replicate k (.int .u8 (((s[0]'hpos).toNat : Nat) : Int)) ++ rest) ∧ Below w.heap.size w wr) (fun i _ => 129 - (intOf i).toNat)
            case atStart => exact ⟨0, _, Nat.zero_le _, rfl, hown7, hb7⟩
            case round =>
              clear hown7 hb7
              obtain ⟨k, rest, hk3, rfl, hown8, hb8⟩ := hrel
              by_cases hlt3 : k < 129
              · have hf8 := hown8.frozenAt k
                obtain ⟨u8, hd8⟩ : ∃ u, wr.cell? ⟨w5.heap.size, k, none⟩ = some u := by
                  rw [hown8.cellAt k (by omega)]
                  exact ⟨_, List.getElem?_eq_getElem (by rw [hown8.1]; omega)⟩
                have HR : Hid (∃ rest', (wr.setCell ⟨w5.heap.size, k, none⟩ (.int .u8 (((s[0]'hpos).toNat : Nat) : Int))).ownsRow w.heap.size 5 1 (.slice (some ⟨w5.heap.size, 0, none⟩) 129 129) 129 (List.replicate (k + 1) (.int .u8 (((s[0]'hpos).toNat : Nat) : Int)) ++ rest')) := run_round hlt3 hown8
                clear hown8
                go_wp2
                go_roundw
                case rel =>
                  obtain ⟨rest', hr⟩ := HR.out
                  exact ⟨k + 1, rest', by omega, by go_num, hr, hb8.setCell hs6 _⟩
                case measure => simp [intOf]; omega
              · obtain rfl : k = 129 := by omega
                have hrun := run_end hown8
                have hg8 : w5.heap.size < wr.heap.size := World.block_lt_of_cell? _ _ (hrun 0 (by omega))
                obtain ⟨V, hV⟩ : ∃ V, V = okn (((s[0]'hpos).toNat : Nat) : Int) := ⟨_, rfl⟩
                obtain ⟨R, hR⟩ : ∃ R, R = runStr (s[0]'hpos) 128 := ⟨_, rfl⟩
                obtain ⟨R2, hR2⟩ : ∃ R2, R2 = runStr (s[0]'hpos) 129 := ⟨_, rfl⟩
                have hcv1 : (convert 24 9 (.slice (some ⟨w5.heap.size, 0, none⟩) 128 129)).run Try.prog wr.drew = .ok (.string R) wr.drew := by rw [hR]; exact conv_run fun j hj => (hrun j (by omega))
                have HV1 : Hid (vld (nums R) = V) := by rw [hR, hV]; exact vld_run _ _ (by omega) (by omega)
                have HV2 : Hid (vld (nums (s.extract 0 1)) = V) := by rw [hV]; exact vld_one s 0 _ (nums_get s 0 hpos)
                have HV3 : Hid (vld (nums R2) = false) := by rw [hR2]; exact vld_over _ _ (by omega)
                have HCV : Hid (∀ X, Below wr.heap.size wr X → (convert 24 9 (.slice (some ⟨w5.heap.size, 0, none⟩) 129 129)).run Try.prog X = .ok (.string R2) X) := fun X hX => by
                  rw [hR2]
                  exact conv_run fun j hj => (hX.cell (p := ⟨w5.heap.size, j, none⟩) hg8).trans (hrun j hj)
                clear hown8 hV hR hR2 hrun
                go_wp2_with fail
                go_region_with (first | (go_at_call_of 7 (Value.string R); refine (zzv _ _ _ HV1.out).mono ?_; rintro e w8 ⟨rfl, hc8⟩) | (go_at_call_of 7 (Value.string (s.extract 0 1)); refine (zzv _ _ _ HV2.out).mono ?_; rintro e w9 ⟨rfl, hc9⟩))
                have hX : Below wr.heap.size wr w9 := ((Below.refl _ wr).drew.trans hc8).trans (hc9.mono hc8.size)
                have hY : Below w.heap.size w w9 := hb8.trans (hX.mono hb8.size)
                have hcv2 := HCV.out w9 hX
                clear hX hb8 hc8 hc9 hcv1 HCV
                go_wp2_with fail
                refine (zzv _ _ _ HV3.out).mono ?_
                rintro e w10 ⟨rfl, hc10⟩
                go_wp2
                go_ret
                exact ⟨rfl, hY.trans (hc10.mono hY.size)⟩

set_option maxHeartbeats 8000000 in
theorem law4_none (s : ByteArray) (w : World) (h0 : s.size = 0) :
    Calls Try.prog 4 #[.string s] w fun e w' => e = .returned (.bool true) ∧ Below w.heap.size w w' := by
  obtain ⟨i0, hi, hz0, hz1, hz2⟩ := info_parts info5
  go_enter Try.func4, Try.ntmps4
  go_wp2_with fail
  refine (bytes8_yes _ _ (by rw [h0]; decide)).mono ?_
  rintro e w' ⟨rfl, hw⟩
  subst w'
  go_wp2_with (at_make; refine wpList_make_full _ rfl _ _ 24 rfl w.heap.size 5 i0 _ 1 Try.underlying24 hi hz0 hz1 _ _ _ _ 1 rfl rfl rfl rfl (by rw [hz2]; omega) (by unfold maxLen; omega) (Nat.le_refl _) ?_)
  intro w1 hown1 hgrow1
  have hb1 : Below w.heap.size w w1 := (Below.refl _ w).grown hgrow1 (Nat.le_refl _) (fun k hk => by cases hk)
  clear hgrow1
  go_wp2
  go_loopw [3, 5] (fun n i wr => ∃ (k : Nat) (x : Value), k ≤ 256 ∧ i = .int .i64 k ∧ n = .int .i64 (cnt k) ∧ wr.ownsRow w.heap.size 5 1 (.slice (some ⟨w.heap.size, 0, none⟩) 1 1) 1 [x] ∧ Below w.heap.size w wr) (fun _ i _ => 256 - (intOf i).toNat)
  case atStart => exact ⟨0, .int .u8 0, Nat.zero_le _, rfl, rfl, by rw [toList_madeCells_one] at hown1; exact hown1, hb1⟩
  case round =>
    clear hown1 hb1
    obtain ⟨k, x, hk, rfl, rfl, hown, hbel⟩ := hrel
    have hcl := cnt_le k
    by_cases hlt : k < 256
    · have hd0 : wr.cell? ⟨w.heap.size, 0, none⟩ = some x := by rw [hown.cellAt 0 (by omega)]; rfl
      have hf0 := hown.frozenAt 0
      have hu := ofNat_toNat hlt
      have ho2 := (hown.stored 0 (.int .u8 (k : Int))).1
      have hcv : (convert 24 9 (.slice (some ⟨w.heap.size, 0, none⟩) 1 1)).run Try.prog (wr.setCell ⟨w.heap.size, 0, none⟩ (.int .u8 (k : Int))) = .ok (.string (runStr (UInt8.ofNat k) 1)) (wr.setCell ⟨w.heap.size, 0, none⟩ (.int .u8 (k : Int))) := by
        refine conv_run fun j hj => ?_
        obtain rfl : j = 0 := by omega
        rw [hu, ho2.cellAt 0 (by omega)]
        rfl
      have HV : Hid (vld (nums (runStr (UInt8.ofNat k) 1)) = okn (k : Int)) := by
        have := vld_run (UInt8.ofNat k) 1 (by omega) (by omega)
        rw [hu] at this
        exact this
      have HC : Hid (cnt (k + 1) = cnt k + if okn (k : Int) then 1 else 0) := rfl
      have hb2 : Below w.heap.size w (wr.setCell ⟨w.heap.size, 0, none⟩ (.int .u8 (k : Int))) := hbel.setCell (Nat.le_refl _) _
      clear hown hbel hu
      cases hok : okn (k : Int) with
      | true =>
        rw [hok] at HV HC
        go_wp2_with fail
        refine (zzv _ true _ HV.out).mono ?_
        rintro e w3 ⟨rfl, hb3⟩
        have ho3 := own_below ho2 hb3
        have hb4 := hb2.trans (hb3.mono hb2.size)
        clear ho2 hb2 hb3 hcv
        go_wp2
        go_roundw
        case rel => exact ⟨k + 1, _, by omega, by go_num, by rw [HC.out]; go_num, ho3, hb4⟩
        case measure => simp [intOf]; omega
      | false =>
        rw [hok] at HV HC
        go_wp2_with fail
        refine (zzv _ false _ HV.out).mono ?_
        rintro e w3 ⟨rfl, hb3⟩
        have ho3 := own_below ho2 hb3
        have hb4 := hb2.trans (hb3.mono hb2.size)
        clear ho2 hb2 hb3 hcv
        go_wp2
        go_roundw
        case rel => exact ⟨k + 1, _, by omega, by go_num, by rw [HC.out]; go_num, ho3, hb4⟩
        case measure => simp [intOf]; omega
    · obtain rfl : k = 256 := by omega
      rw [show ((cnt 256 : Nat) : Int) = 65 from by rw [cnt_256]; rfl, show (((256 : Nat)) : Int) = 256 from rfl]
      clear hown hcl
      have HVs : Hid (vld (nums s) = false) := vld_nil h0
      go_wp2_with fail
      refine wp_loop_rounds 1 ?_
      rw [rounds_succ]
      go_wp2_with fail
      refine (zzv s false _ HVs.out).mono ?_
      rintro e w5 ⟨rfl, hb5⟩
      have hb6 := hbel.trans (hb5.mono hbel.size)
      clear hbel hb5
      go_wp2
      go_ret
      exact ⟨rfl, hb6⟩
end Go.Proofs.Qxb6625837a
