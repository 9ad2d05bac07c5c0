/-
  The second law's walks: errors.Is at two different errors of errors.New's make; notJSON at the two sentinels; the two exported helpers; the law.
-/
import Derived.Test.Qxb6625454aFmtWalkC
namespace Go.Proofs.Qxb6625454aFmt
open Go.RowKit Go.Extern.Stop Go.Stop Go.Extern

theorem k_call15 (v : Value) (w : World) : (callFunc 15 #[.iface 32 v]).run Tryf.prog w = .ok (.value (.iface 47 (.agg #[.pointer (some ⟨2, 32, none⟩)]))) w := by kernel_rfl
theorem k_call39 (w : World) : (callFunc 39 #[.agg #[.pointer (some ⟨2, 32, none⟩)]]).run Tryf.prog w = .ok (.value (.bool true)) w := by kernel_rfl

set_option maxHeartbeats 400000 in
theorem is_other (a b : Addr) (ca cb : Array Value) (ta tb : TypeId) (w : World) (hne : a ≠ b) (ha : w.heap[a.block]? = some (.cells ca ta (0, 0))) (hb : w.heap[b.block]? = some (.cells cb tb (0, 0))) :
    Calls Tryf.prog 13 #[.iface 32 (.pointer (some a)), .iface 32 (.pointer (some b))] w fun e w' => e = .returned (.bool false) ∧ w' = w := by
  obtain ⟨i, hi, hcmp⟩ := Option.map_eq_some_iff.1 k_comp32
  obtain ⟨j, hj, hjs⟩ := Option.map_eq_some_iff.1 k_size34
  have h15 := k_call15
  have h39 := k_call39
  have mR := k_methodComparable
  have nE := k_noIsE
  have uE := k_noUnwrapE
  have vE := k_noUnwrapsE
  have heq := run_eql_iface_ptr_other (P := Tryf.prog) w Tryf.underlying28 Tryf.underlying32 hi hcmp hj (of_decide_eq_false hjs) hne ha hb
  go_enter Tryf.func13, Tryf.ntmps13
  go_wp2
  refine wp_loop_rounds 1 ?_
  rw [rounds_succ]
  go_wp2
  go_ret
  exact ⟨rfl, rfl⟩

theorem is_new (a b : Addr) (w : World) (hne : a ≠ b) (ha : ∃ ca ta, w.heap[a.block]? = some (.cells ca ta (0, 0))) (hb : ∃ cb tb, w.heap[b.block]? = some (.cells cb tb (0, 0))) :
    Calls Tryf.prog 13 #[.iface 32 (.pointer (some a)), .iface 32 (.pointer (some b))] w fun e w' => e = .returned (.bool false) ∧ w' = w := by
  obtain ⟨ca, ta, ha⟩ := ha
  obtain ⟨cb, tb, hb⟩ := hb
  exact is_other a b ca cb ta tb w hne ha hb

/-- What a new error's block holds. -/
abbrev endText : ByteArray := { data := #[110, 111, 116, 32, 74, 83, 79, 78, 58, 32, 105, 116, 32, 101, 110, 100, 115, 32, 116, 111, 111, 32, 115, 111, 111, 110] }

set_option maxHeartbeats 400000 in
theorem notJSON_eof (a0 : Addr) (w : World) (hg0 : w.cell? ⟨0, 0, none⟩ = some (.iface 32 (.pointer (some a0)))) :
    Calls Tryf.prog 11 #[.iface 32 (.pointer (some a0))] w fun e w' => e = .returned (.iface 32 (.pointer (some ⟨w.heap.size, 0, none⟩))) ∧ w' = w.alloc (.cells #[.string endText] 34) := by
  obtain ⟨i, hi, hcmp⟩ := Option.map_eq_some_iff.1 k_comp32
  obtain ⟨j, hj, hjs⟩ := Option.map_eq_some_iff.1 k_size34
  have hsame := run_eql_iface_ptr_same (P := Tryf.prog) w a0 Tryf.underlying28 Tryf.underlying32 hi hcmp hj
  go_enter Tryf.func11, Tryf.ntmps11
  go_wp2
  go_ret
  exact ⟨rfl, rfl⟩

set_option maxHeartbeats 400000 in
theorem notJSON_unexp (a0 a1 : Addr) (c0 c1 : Array Value) (t0 t1 : TypeId) (w : World) (hg0 : w.cell? ⟨0, 0, none⟩ = some (.iface 32 (.pointer (some a0)))) (hg1 : w.cell? ⟨1, 0, none⟩ = some (.iface 32 (.pointer (some a1))))
    (hne : a0 ≠ a1) (hb0 : w.heap[a0.block]? = some (.cells c0 t0 (0, 0))) (hb1 : w.heap[a1.block]? = some (.cells c1 t1 (0, 0))) :
    Calls Tryf.prog 11 #[.iface 32 (.pointer (some a1))] w fun e w' => e = .returned (.iface 32 (.pointer (some ⟨w.heap.size, 0, none⟩))) ∧ w' = w.alloc (.cells #[.string endText] 34) := by
  obtain ⟨i, hi, hcmp⟩ := Option.map_eq_some_iff.1 k_comp32
  obtain ⟨j, hj, hjs⟩ := Option.map_eq_some_iff.1 k_size34
  have heq := run_eql_iface_ptr_other (P := Tryf.prog) w Tryf.underlying28 Tryf.underlying32 hi hcmp hj (of_decide_eq_false hjs) (Ne.symm hne) hb1 hb0
  have hsame := run_eql_iface_ptr_same (P := Tryf.prog) w a1 Tryf.underlying28 Tryf.underlying32 hi hcmp hj
  go_enter Tryf.func11, Tryf.ntmps11
  go_wp2
  go_ret
  exact ⟨rfl, rfl⟩

theorem results_tmp4 {fn : Func} {t u v x : Tmp} (h : fn.results = #[.tmp t, .tmp u, .tmp v, .tmp x]) (tmps : Array Value) (P : Program) (w : World) :
    (results fn tmps).run P w = .ok (.tuple #[tmps.getD t undef, tmps.getD u undef, tmps.getD v undef, tmps.getD x undef]) w := by
  simp [results, h]

set_option maxHeartbeats 1000000 in
theorem onEOF (a0 a1 : Addr) (c0 c1 : Array Value) (t0 t1 : TypeId) (w : World)
    (hg0 : w.cell? ⟨0, 0, none⟩ = some (.iface 32 (.pointer (some a0)))) (hg1 : w.cell? ⟨1, 0, none⟩ = some (.iface 32 (.pointer (some a1))))
    (hb0 : w.heap[a0.block]? = some (.cells c0 t0 (0, 0))) (hb1 : w.heap[a1.block]? = some (.cells c1 t1 (0, 0))) :
    Calls Tryf.prog 8 #[] w fun e w' => e = .returned (.tuple #[.bool false, .bool false, .bool false, .bool false]) ∧ Below w.heap.size w w' := by
  have hk0 := cell_alloc (.cells #[.string endText] 34) hg0
  have hk1 := cell_alloc (.cells #[.string endText] 34) hg1
  go_enter Tryf.func8, Tryf.ntmps8
  go_wp2_with fail
  refine (notJSON_eof a0 w hg0).mono ?_
  rintro e w' ⟨rfl, rfl⟩
  go_wp2_with fail
  go_quiet (first
    | (go_at_call 12; exact (unwrap_plain _ _).mono fun _ _ ⟨he, hm⟩ => ⟨he, _, hm⟩)
    | (go_at_call 13; exact (is_new ⟨w.heap.size, 0, none⟩ _ _ (by first | exact new_ne hb0 0 | exact new_ne hb1 0) (by exact ⟨_, _, block_new w _⟩) (by first | exact ⟨_, _, block_alloc hb0⟩ | exact ⟨_, _, block_alloc hb1⟩)).mono fun _ _ ⟨he, hm⟩ => ⟨he, _, hm⟩))
  go_wp2
  (try simp only [Exit.inBlock, Exit.then])
  refine bodyPost_ret (results_tmp4 rfl _ _ _) rfl ?_
  exact ⟨rfl, below_drewN ((Below.refl _ w).alloc (Nat.le_refl _) _) _⟩

set_option maxHeartbeats 1000000 in
theorem onUnexp (a0 a1 : Addr) (c0 c1 : Array Value) (t0 t1 : TypeId) (w : World)
    (hg0 : w.cell? ⟨0, 0, none⟩ = some (.iface 32 (.pointer (some a0)))) (hg1 : w.cell? ⟨1, 0, none⟩ = some (.iface 32 (.pointer (some a1))))
    (hne : a0 ≠ a1) (hb0 : w.heap[a0.block]? = some (.cells c0 t0 (0, 0))) (hb1 : w.heap[a1.block]? = some (.cells c1 t1 (0, 0))) :
    Calls Tryf.prog 9 #[] w fun e w' => e = .returned (.tuple #[.bool false, .bool false, .bool false, .bool false]) ∧ Below w.heap.size w w' := by
  have hk0 := cell_alloc (.cells #[.string endText] 34) hg0
  have hk1 := cell_alloc (.cells #[.string endText] 34) hg1
  go_enter Tryf.func9, Tryf.ntmps9
  go_wp2_with fail
  refine (notJSON_unexp a0 a1 c0 c1 t0 t1 w hg0 hg1 hne hb0 hb1).mono ?_
  rintro e w' ⟨rfl, rfl⟩
  go_wp2_with fail
  go_quiet (first
    | (go_at_call 12; exact (unwrap_plain _ _).mono fun _ _ ⟨he, hm⟩ => ⟨he, _, hm⟩)
    | (go_at_call 13; exact (is_new ⟨w.heap.size, 0, none⟩ _ _ (by first | exact new_ne hb0 0 | exact new_ne hb1 0) (by exact ⟨_, _, block_new w _⟩) (by first | exact ⟨_, _, block_alloc hb0⟩ | exact ⟨_, _, block_alloc hb1⟩)).mono fun _ _ ⟨he, hm⟩ => ⟨he, _, hm⟩))
  go_wp2
  (try simp only [Exit.inBlock, Exit.then])
  refine bodyPost_ret (results_tmp4 rfl _ _ _) rfl ?_
  exact ⟨rfl, below_drewN ((Below.refl _ w).alloc (Nat.le_refl _) _) _⟩

set_option maxHeartbeats 400000 in
theorem bytes7_yes (s : ByteArray) (w : World) (hs : (s.size : Int) ≤ 1048576) :
    Calls Tryf.prog 7 #[.string s] w fun e w' => e = .returned (.bool true) ∧ w' = w := by
  go_enter Tryf.func7, Tryf.ntmps7
  go_wp2
  go_ret
  exact ⟨rfl, rfl⟩

set_option maxHeartbeats 400000 in
theorem bytes7_no (s : ByteArray) (w : World) (hs : (1048576 : Int) < s.size) :
    Calls Tryf.prog 7 #[.string s] w fun e w' => e = .returned (.bool false) ∧ w' = w := by
  go_enter Tryf.func7, Tryf.ntmps7
  go_wp2
  go_ret
  exact ⟨rfl, rfl⟩

set_option maxHeartbeats 400000 in
theorem law4_long (s : ByteArray) (w : World) (hs : (1048576 : Int) < s.size) :
    Calls Tryf.prog 4 #[.string s] w fun e w' => e = .returned (.bool true) ∧ w' = w := by
  go_enter Tryf.func4, Tryf.ntmps4
  go_wp2_with fail
  refine (bytes7_no _ _ hs).mono ?_
  rintro e w' ⟨rfl, rfl⟩
  go_wp2
  go_ret
  exact ⟨rfl, rfl⟩

set_option maxHeartbeats 1000000 in
theorem law4_short (F : Interp) (a0 a1 : Addr) (s : ByteArray) (c0 c1 : Array Value) (t0 t1 : TypeId) (w : World) (hF : F.answers w.tape)
    (hg0 : w.cell? ⟨0, 0, none⟩ = some (.iface 32 (.pointer (some a0)))) (hg1 : w.cell? ⟨1, 0, none⟩ = some (.iface 32 (.pointer (some a1))))
    (hne : a0 ≠ a1) (hb0 : w.heap[a0.block]? = some (.cells c0 t0 (0, 0))) (hb1 : w.heap[a1.block]? = some (.cells c1 t1 (0, 0)))
    (hs : (s.size : Int) ≤ 1048576) :
    Calls Tryf.prog 4 #[.string s] w fun e w' => e = .returned (.bool true) ∧ Below w.heap.size w w' := by
  have hz0 := World.block_lt_of_cell? _ _ hg0
  have hz1 := World.block_lt_of_cell? _ _ hg1
  have hy0 := lt_of_block hb0
  have hy1 := lt_of_block hb1
  have keep : ∀ w1 : World, Hid (Below w.heap.size w w1 → w1.cell? ⟨0, 0, none⟩ = some (.iface 32 (.pointer (some a0))) ∧ w1.cell? ⟨1, 0, none⟩ = some (.iface 32 (.pointer (some a1))) ∧ w1.heap[a0.block]? = some (.cells c0 t0 (0, 0)) ∧ w1.heap[a1.block]? = some (.cells c1 t1 (0, 0)) ∧ F.answers w1.tape) := fun w1 hb =>
    ⟨(hb.cell hz0).trans hg0, (hb.cell hz1).trans hg1, (hb.block _ hy0).trans hb0, (hb.block _ hy1).trans hb1, by rw [hb.tape]; exact hF⟩
  go_enter Tryf.func4, Tryf.ntmps4
  go_wp2_with fail
  refine (bytes7_yes _ _ hs).mono ?_
  rintro e w' ⟨rfl, hw⟩
  subst hw
  go_wp2_with fail
  refine (onEOF a0 a1 c0 c1 t0 t1 _ hg0 hg1 hb0 hb1).mono ?_
  rintro e w1 ⟨rfl, hbl⟩
  go_wp2_with fail
  obtain ⟨k0, k1, m0, m1, _⟩ := (keep w1).out hbl
  refine (onUnexp a0 a1 c0 c1 t0 t1 _ k0 k1 hne m0 m1).mono ?_
  clear k0 k1 m0 m1
  rintro e w2 ⟨rfl, hbl2⟩
  have hbl3 := hbl.trans (hbl2.mono hbl.size)
  clear hbl2 hbl
  go_wp2_with fail
  obtain ⟨k0, k1, m0, m1, hF2⟩ := (keep w2).out hbl3
  refine (onText_below F a0 a1 s c0 c1 t0 t1 _ hF2 k0 k1 m0 m1).mono ?_
  clear k0 k1 m0 m1 hF2
  rintro e w3 ⟨rfl, hbl4⟩
  have hbl5 := hbl3.trans (hbl4.mono hbl3.size)
  clear hbl3 hbl4 keep
  go_wp2
  go_ret
  exact ⟨rfl, hbl5⟩
end Go.Proofs.Qxb6625454aFmt
